import Derived.Test.Qxb6605402aBase
namespace Go.Proofs.Qxb6605402a
open Go.RowKit
set_option linter.unusedVariables false
set_option linter.unusedSimpArgs false

theorem Try.info26 : (Try.prog.info? 26).map (fun i => (i.zero.map (·.cells.size), i.size, i.bytes)) = some (some 9, 9, 64) := by kernel_rfl
theorem Try.info43 : (Try.prog.info? 43).map (fun i => (i.zero.map (·.cells.size), i.size, i.bytes)) = some (some 9, 9, 64) := by kernel_rfl
theorem Try.info3 : (Try.prog.info? 3).map (fun i => (i.zero.map (·.cells.size), i.size, i.bytes)) = some (some 1, 1, 8) := by kernel_rfl

/-- 'make([]T, n)': some row of n elements. -/
theorem make_any {t e : TypeId} {zs size bytes : Nat} (ht : Try.prog.underlying t = some (.slice e)) (hinfo : (Try.prog.info? e).map (fun i => (i.zero.map (·.cells.size), i.size, i.bytes)) = some (some zs, size, bytes)) (n : Nat) (hb : bytes * n ≤ 281474976710656) (h63 : n ≤ 9223372036854775807) :
    ∃ cs : Array Value, cs.size = n * size ∧ ∀ w, (Instr.makeSlice t (.int .i64 (n : Int)) (.int .i64 (n : Int))).run Try.prog w = .ok (.slice (some ⟨w.heap.size, 0, none⟩) n n) (w.alloc (.cells cs e)) := by
  obtain ⟨i, hi, hzz⟩ := Option.map_eq_some_iff.1 hinfo
  simp only [Prod.mk.injEq, Option.map_eq_some_iff] at hzz
  obtain ⟨⟨z, hz, _⟩, hs, hby⟩ := hzz
  refine ⟨madeCells z.cells (n * size), size_madeCells _ _, fun w => ?_⟩
  have hb' : (i.bytes : Int) * (n : Int) ≤ 281474976710656 := by
    have h : ((i.bytes * n : Nat) : Int) ≤ 281474976710656 := by rw [hby]; omega
    rwa [Int.natCast_mul] at h
  have hr := run_make (P := Try.prog) w t e i z ht hi hz .i64 .i64 n n (by omega) (Int.le_refl _) hb' (by omega)
  simp only [Int.toNat_natCast, hs] at hr
  exact hr

set_option maxHeartbeats 1000000 in
theorem copyLocks10 (a : Option Addr) (L : Nat → Lk) (n cap : Nat) (hn : n ≤ 4096) (w : World) (hL : OtAt w a n L)
    (R : Ending → World → Prop) (hR : ∀ a' cap' w', OtAt w' a' n L → Below w.heap.size w w' → R (.returned (.slice a' n cap')) w') :
    Calls Try.prog 10 #[.slice a n cap] w R := by
  obtain ⟨cs, hcs, hmk⟩ := make_any Try.underlying28 Try.info26 n (by omega) (by omega)
  have heq := fun (w : World) (a : Option Addr) (l c : Nat) => Lib.run_eql_slice_nil (P := Try.prog) w 28 26 a l c 0 0 Try.underlying28
  rcases a with _ | ad
  · have hn0 : n = 0 := by
      by_cases h : 0 < n
      · obtain ⟨b, o, e, _⟩ := hL 0 h; cases e
      · omega
    subst hn0
    go_enter Try.func10, Try.ntmps10
    go_wp2
    exact hR none 0 _ hL (Below.refl _ _)
  · go_enter Try.func10, Try.ntmps10
    go_wp2
    go_loopg [4] n (fun g t wr => ∃ k : Nat, k + g = n ∧ t = .int .i64 k ∧ Row wr w.heap.size 26 (n * 9) ∧ (∀ i, i < k → LkAt wr w.heap.size (i * 9) (L i)) ∧ Below w.heap.size w wr)
    case atStart => exact ⟨0, by omega, rfl, hcs ▸ Row.new _ _ _, fun i h => by omega, (Below.refl _ _).alloc (Nat.le_refl _) _⟩
    case round =>
      obtain ⟨k, hk, rfl, hrow, hl, hb⟩ := hrel
      by_cases hlt : k < n
      · obtain ⟨b, o, e, _, hc⟩ := (hL.below hb) k hlt
        obtain rfl := Option.some.inj e
        obtain ⟨c0, c1, c2, c3, c4, c5, c6, c7, c8⟩ := hc
        have fz := hrow.fz
        obtain ⟨x0, d0⟩ := hrow.ex (o := k * 9) (by omega)
        obtain ⟨x1, d1⟩ := hrow.ex (o := k * 9 + 1) (by omega)
        obtain ⟨x2, d2⟩ := hrow.ex (o := k * 9 + 2) (by omega)
        obtain ⟨x3, d3⟩ := hrow.ex (o := k * 9 + 3) (by omega)
        obtain ⟨x4, d4⟩ := hrow.ex (o := k * 9 + 4) (by omega)
        obtain ⟨x5, d5⟩ := hrow.ex (o := k * 9 + 5) (by omega)
        obtain ⟨x6, d6⟩ := hrow.ex (o := k * 9 + 6) (by omega)
        obtain ⟨x7, d7⟩ := hrow.ex (o := k * 9 + 7) (by omega)
        obtain ⟨x8, d8⟩ := hrow.ex (o := k * 9 + 8) (by omega)
        have HB := hide hb
        have HC := hide hrow
        have HL := hide hl
        clear hb hrow hl hL e
        go_wp2
        go_roundg (gk - 1)
        case rel =>
          refine ⟨k + 1, by omega, by go_num, ?_, ?_, ?_⟩
          · exact (unhide HC).setCells w.heap.size (L k).cells (k * 9)
          · intro i hi
            by_cases h : i = k
            · subst h; exact LkAt.set (L i) (unhide HC) (by omega)
            · exact (unhide HL i (by omega)).out (b' := w.heap.size) (o' := k * 9) (vs := (L k).cells) (.inr (.inl (by omega)))
          · exact Below.setCells' w.heap.size (Nat.le_refl _) (L k).cells (k * 9) _ (unhide HB)
        case measure => omega
      · obtain rfl : k = n := by omega
        clear hlt
        have HB := hide hb
        have HL := hide hl
        have hlt := hrow.lt
        clear hb hl
        go_wp2
        exact hR _ _ _ (fun i hi => ⟨_, _, rfl, hlt, by simpa using unhide HL i hi⟩) (unhide HB)

set_option maxHeartbeats 1000000 in
theorem copyInts11 (a : Option Addr) (U : Nat → Int) (n cap : Nat) (hn : n ≤ 4096) (w : World) (hL : UtAt w a n U)
    (R : Ending → World → Prop) (hR : ∀ a' cap' w', UtAt w' a' n U → Below w.heap.size w w' → R (.returned (.slice a' n cap')) w') :
    Calls Try.prog 11 #[.slice a n cap] w R := by
  obtain ⟨cs, hcs, hmk⟩ := make_any Try.underlying29 Try.info3 n (by omega) (by omega)
  have heq := fun (w : World) (a : Option Addr) (l c : Nat) => Lib.run_eql_slice_nil (P := Try.prog) w 29 3 a l c 0 0 Try.underlying29
  rcases a with _ | ad
  · have hn0 : n = 0 := by
      by_cases h : 0 < n
      · obtain ⟨b, o, e, _⟩ := hL 0 h; cases e
      · omega
    subst hn0
    go_enter Try.func11, Try.ntmps11
    go_wp2
    exact hR none 0 _ hL (Below.refl _ _)
  · go_enter Try.func11, Try.ntmps11
    go_wp2
    go_loopg [4] n (fun g t wr => ∃ k : Nat, k + g = n ∧ t = .int .i64 k ∧ Row wr w.heap.size 3 (n * 1) ∧ (∀ i, i < k → wr.cell? ⟨w.heap.size, i, none⟩ = some (.int .i64 (U i))) ∧ Below w.heap.size w wr)
    case atStart => exact ⟨0, by omega, rfl, hcs ▸ Row.new _ _ _, fun i h => by omega, (Below.refl _ _).alloc (Nat.le_refl _) _⟩
    case round =>
      obtain ⟨k, hk, rfl, hrow, hl, hb⟩ := hrel
      by_cases hlt : k < n
      · obtain ⟨b, o, e, _, c0⟩ := (hL.below hb) k hlt
        obtain rfl := Option.some.inj e
        have fz := hrow.fz
        obtain ⟨x0, d0⟩ := hrow.ex (o := k) (by omega)
        have HB := hide hb
        have HC := hide hrow
        have HL := hide hl
        clear hb hrow hl hL e
        go_wp2
        go_roundg (gk - 1)
        case rel =>
          refine ⟨k + 1, by omega, by go_num, ?_, ?_, ?_⟩
          · exact (unhide HC).setCells w.heap.size [.int .i64 (U k)] k
          · intro i hi
            by_cases h : i = k
            · subst h; exact setCells_in (vs := [.int .i64 (U i)]) (unhide HC) (by simp; omega) (j := 0) (by simp)
            · exact (setCells_out (vs := [.int .i64 (U k)]) (.inr (.inl (by omega)))).trans (unhide HL i (by omega))
          · exact Below.setCells' w.heap.size (Nat.le_refl _) [.int .i64 (U k)] k _ (unhide HB)
        case measure => omega
      · obtain rfl : k = n := by omega
        clear hlt
        have HB := hide hb
        have HL := hide hl
        have hlt := hrow.lt
        clear hb hl
        go_wp2
        exact hR _ _ _ (fun i hi => ⟨_, _, rfl, hlt, by simpa using unhide HL i hi⟩) (unhide HB)

end Go.Proofs.Qxb6605402a
