import Derived.Test.Qxb6600489aFn
namespace Go.Proofs.Qxb6600489a
open Go.RowKit
set_option linter.unusedVariables false
set_option linter.unusedSimpArgs false

set_option maxHeartbeats 2000000 in
theorem index20 (a : Option Addr) (O : Nat → Tr) (n cap : Nat) (x : Tr) (hn : n ≤ 4096) (w : World) (hL : TsAt w a n O)
    (R : Ending → World → Prop) (h1 : ∀ w', Below w.heap.size w w' → has O n x = false → R (.returned (.int .i64 (-1))) w') (h2 : ∀ w' (i : Nat), Below w.heap.size w w' → i < n → has O n x = true → R (.returned (.int .i64 i)) w') :
    Calls Try.prog 20 #[.slice a n cap, .agg #[.int .u8 x.ty, .int .u16 x.id, .int .u16 x.kl]] w R := by
  have he := eql42
  have hg := eg42
  go_enter Try.func20, Try.ntmps20
  go_wp2
  go_loopg [8] n (fun g t wr => ∃ k : Nat, k + g = n ∧ t = .int .i64 k ∧ has O k x = false ∧ Below (w.heap.size + 1) (w.alloc (.cells #[.int .u8 x.ty, .int .u16 x.id, .int .u16 x.kl] 42)) wr)
  case atStart => exact ⟨0, by omega, rfl, rfl, Below.refl _ _⟩
  case round =>
    obtain ⟨k, hk, rfl, hno, hb⟩ := hrel
    have hbox := (hb.block w.heap.size (by omega)).trans (heap_new w _)
    have q0 := cell_of_heap hbox 0
    have q1 := cell_of_heap hbox 1
    have q2 := cell_of_heap hbox 2
    have hB0 : Below w.heap.size w wr := ((Below.refl _ _).alloc (Nat.le_refl _) _).trans (hb.mono (by omega))
    by_cases hlt : k < n
    · obtain ⟨b, o, rfl, hbl, hc⟩ := (hL.below hB0) k hlt
      obtain ⟨c0, c1, c2⟩ := hc
      cases e : same x (O k) with
      | true =>
        have ex : x = O k := (same_iff _ _).1 e
        have HR := hide (fun w' hb' => h2 w' k hb' hlt (has_of hlt ex.symm))
        have HB := hide hB0
        have HE := hide e
        clear h1 h2 hL hb hbox hB0 ex hno
        go_wp2
        go_region
        go_wp2
        exact HR.out _ HB.out.drew
      | false =>
        have HE := hide e
        have HN := hide hno
        have HB := hide hb
        have HH := hide (And.intro h1 h2)
        clear h1 h2 hL hb hbox hB0 hno
        go_wp2
        go_region
        go_wp2
        go_roundg (gk - 1)
        case rel =>
          refine ⟨k + 1, by omega, by go_num, ?_, HB.out.drew⟩
          show (has O k x || same (O k) x) = false
          have e2 : same (O k) x = false := by
            cases h : same (O k) x with
            | false => rfl
            | true =>
              have e3 := (same_iff _ _).1 h
              have e4 : same x (O k) = true := (same_iff _ _).2 e3.symm
              rw [HE.out] at e4; cases e4
          rw [HN.out, e2]; rfl
        case measure => omega
    · obtain rfl : k = n := by omega
      have HR := hide (h1 wr hB0 hno)
      clear h1 h2 hno hL hlt hk hb hbox hB0
      go_wp2
      exact HR.out


set_option maxHeartbeats 1000000 in
theorem contains18 (a : Option Addr) (O : Nat → Tr) (n cap : Nat) (x : Tr) (hn : n ≤ 4096) (w : World) (hL : TsAt w a n O)
    (R : Ending → World → Prop) (hR : ∀ w', Below w.heap.size w w' → R (.returned (.bool (has O n x))) w') :
    Calls Try.prog 18 #[.slice a n cap, .agg #[.int .u8 x.ty, .int .u16 x.id, .int .u16 x.kl]] w R := by
  have HL := hide (hL.below ((Below.refl _ _).alloc (Nat.le_refl _) (.cells #[.int .u8 x.ty, .int .u16 x.id, .int .u16 x.kl] 42)))
  have HR := hide hR
  clear hL hR
  go_enter Try.func18, Try.ntmps18
  go_wp2_with (go_at_call 20; refine index20 a O n cap x hn _ HL.out _ (fun w1 b1 e1 => ?_) (fun w1 i b1 hi e1 => ?_); all_goals have B1 := hide b1; all_goals have E1 := hide e1; all_goals clear b1 e1)
  · have := HR.out w1 (((Below.refl _ _).alloc (Nat.le_refl _) _).trans (B1.out.mono (by simp)))
    rw [E1.out] at this
    exact this
  · have := HR.out w1 (((Below.refl _ _).alloc (Nat.le_refl _) _).trans (B1.out.mono (by simp)))
    rw [E1.out] at this
    exact this

set_option maxHeartbeats 2000000 in
theorem has16 (a : Option Addr) (O : Nat → Tr) (n cap : Nat) (x : Tr) (hn : n ≤ 4096) (w : World) (hL : TsAt w a n O)
    (R : Ending → World → Prop) (hR : ∀ w', Below w.heap.size w w' → R (.returned (.bool (has O n x))) w') :
    Calls Try.prog 16 #[.slice a n cap, .agg #[.int .u8 x.ty, .int .u16 x.id, .int .u16 x.kl]] w R := by
  have he := eql44
  have hg := eg44
  go_enter Try.func16, Try.ntmps16
  go_wp2
  go_loopg [5] n (fun g t wr => ∃ k : Nat, k + g = n ∧ t = .int .i64 k ∧ has O k x = false ∧ Below (w.heap.size + 1) (w.alloc (.cells #[.int .u8 x.ty, .int .u16 x.id, .int .u16 x.kl] 44)) wr)
  case atStart => exact ⟨0, by omega, rfl, rfl, Below.refl _ _⟩
  case round =>
    obtain ⟨k, hk, rfl, hno, hb⟩ := hrel
    have hbox := (hb.block w.heap.size (by omega)).trans (heap_new w _)
    have q0 := cell_of_heap hbox 0
    have q1 := cell_of_heap hbox 1
    have q2 := cell_of_heap hbox 2
    have hB0 : Below w.heap.size w wr := ((Below.refl _ _).alloc (Nat.le_refl _) _).trans (hb.mono (by omega))
    by_cases hlt : k < n
    · obtain ⟨b, o, rfl, hbl, hc⟩ := (hL.below hB0) k hlt
      obtain ⟨c0, c1, c2⟩ := hc
      cases e : same (O k) x with
      | true =>
        have ex : O k = x := (same_iff _ _).1 e
        have HT := hide (has_of hlt ex)
        have HR := hide hR
        have HB := hide hB0
        clear hR hL hb hbox hB0 ex hno
        go_wp2
        go_region
        go_wp2
        have := HR.out _ HB.out.drew
        rw [HT.out] at this
        exact this
      | false =>
        have HE := hide e
        have HN := hide hno
        have HB := hide hb
        have HH := hide hR
        clear hR hL hb hbox hB0 hno
        go_wp2
        go_region
        go_wp2
        go_roundg (gk - 1)
        case rel =>
          refine ⟨k + 1, by omega, by go_num, ?_, HB.out.drew⟩
          show (has O k x || same (O k) x) = false
          rw [HN.out, HE.out]; rfl
        case measure => omega
    · obtain rfl : k = n := by omega
      have HR := hide (hR wr hB0)
      have HN := hide hno
      clear hR hno hL hlt hk hb hbox hB0
      go_wp2
      have := HR.out
      rw [HN.out] at this
      exact this

set_option maxHeartbeats 1000000 in
theorem same11 (x : Tr) (w : World) (R : Ending → World → Prop) (hR : ∀ w', Below w.heap.size w w' → R (.returned (.bool true)) w') :
    Calls Try.prog 11 #[.agg #[.int .u8 x.ty, .int .u16 x.id, .int .u16 x.kl], .agg #[.int .u8 x.ty, .int .u16 x.id, .int .u16 x.kl]] w R := by
  go_enter Try.func11, Try.ntmps11
  go_wp2
  exact ((Below.refl _ _).alloc (Nat.le_refl _) _).alloc (by simp) _

end Go.Proofs.Qxb6600489a
