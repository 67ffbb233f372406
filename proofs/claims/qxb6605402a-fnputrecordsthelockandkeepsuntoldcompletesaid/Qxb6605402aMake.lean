import Derived.Test.Qxb6605402aMk
import Derived.Test.Qxb6605402aCopy
namespace Go.Proofs.Qxb6605402a
open Go.RowKit Go.Maps
set_option linter.unusedVariables false
set_option linter.unusedSimpArgs false

theorem Try.size60 : (Try.prog.info? 60).map (·.size) = some 36 := by kernel_rfl
theorem LS.base {w : World} {B s : Nat} {S : LD} (h : LS w B s S) {B' : Nat} (hB : B' ≤ B) : LS w B' s S := { h with
  hbase := Nat.le_trans hB h.hbase
  obase := fun i hi => Nat.le_trans hB (h.obase i hi)
  mp := by
    rcases h.mp with h0 | ⟨mb, e, hb, hm⟩
    · exact .inl h0
    · exact .inr ⟨mb, e, Nat.le_trans hB hb, hm⟩
  own := by
    obtain ⟨h1, h2⟩ := h.own
    refine ⟨h1, ?_⟩
    rcases h2 with h2 | ⟨g, cap, cur, hv, hg, r⟩
    · exact .inl h2
    · exact .inr ⟨g, cap, cur, hv, Nat.le_trans hB hg, r⟩ }
/-- k locks have been laid from offset 0 of block b on -/
structure LayR (wr : World) (b t n : Nat) (I : Nat → Lk) (k : Nat) : Prop where
  row : Row wr b t (n * 9)
  ip : ∀ i, i < k → LkAt wr b (i * 9) (I i)
theorem LayR.step {wr w1 : World} {b t n : Nat} {I : Nat → Lk} {k : Nat} (h : LayR wr b t n I k) (hk : k < n) (hb : Below wr.heap.size wr w1) : LayR (w1.setCells b (k * 9) (I k).cells) b t n I (k + 1) := by
  have hlt := h.row.lt
  have hr := h.row.below hb hlt
  refine ⟨hr.setCells _ _ _, fun i hi => ?_⟩
  by_cases e : i = k
  · subst e; exact LkAt.set (I i) hr (by omega)
  · exact ((h.ip i (by omega)).below hb hlt).out (.inr (.inl (by omega)))
theorem LayR.other {wr w1 : World} {b t n : Nat} {I : Nat → Lk} {k : Nat} (h : LayR wr b t n I k) (hb : Below wr.heap.size wr w1) {b' o : Nat} (hne : b ≠ b') (vs : List Value) : LayR (w1.setCells b' o vs) b t n I k := by
  have hlt := h.row.lt
  refine ⟨(h.row.below hb hlt).setCells _ _ _, fun i hi => ((h.ip i hi).below hb hlt).out (.inl hne)⟩
theorem LayR.below {wr w1 : World} {b t n : Nat} {I : Nat → Lk} {k : Nat} (h : LayR wr b t n I k) (hb : Below wr.heap.size wr w1) : LayR w1 b t n I k :=
  ⟨h.row.below hb h.row.lt, fun i hi => (h.ip i hi).below hb h.row.lt⟩
theorem LayR.ipAt {wr : World} {b t : Nat} {I : Nat → Lk} {cs : Array Value} (h : LayR wr b t 4 I 4) (hc : wr.heap[b]? = some (.cells cs t)) : IpAt cs I := fun i hi j hj => by
  rw [← cell_of_heap hc]
  exact (h.ip i hi).range j hj

set_option maxRecDepth 100000 in
set_option maxHeartbeats 2000000 in
/-- zzMake -/
theorem make12 (w : World) (cs : Array Value) (I : Nat → Lk) (hI : IpAt cs I) (N : Nat) (hN : N ≤ 4) (a : Option Addr) (L : Nat → Lk) (m cap : Nat) (hm : m ≤ 4096) (hL : OtAt w a m L) (a2 : Option Addr) (u cap2 : Nat) (hu : u ≤ 4096) (T : Nat → Nat) (hU : UtAt w a2 u (fun i => (T i : Int)))
    (hT : ∀ k, k < u → T k < m) (hTi : ∀ i j, i < j → j < u → T i ≠ T j) (hd : ∀ i j, i < j → j < m → (L i).res ≠ (L j).res) (hl : ∀ i, i < m → (L i).res.size ≤ maxLen)
    (R : Ending → World → Prop) (hR : ∀ s S w', LS w' w.heap.size s S → S.N = N → S.I = I → S.m = m → S.O = L → S.u = u → S.T = T → (∀ i, i < m → (S.F i = true ↔ ∃ j, j < u ∧ T j = i)) → Below w.heap.size w w' → R (.returned (.pointer (some ⟨s, 0, none⟩))) w') :
    Calls Try.prog 12 #[.agg cs, .int .i64 (N : Int), .slice a m cap, .slice a2 u cap2] w R := by
  obtain ⟨ms, hms, hmk⟩ := make_any Try.underlying62 Try.info43 m (by omega) (by omega)
  go_enter Try.func12, Try.ntmps12
  go_wp2
  go_loopg [10] 4 (fun g i wr => ∃ k : Nat, k + g = 4 ∧ i = .int .i64 k ∧ wr.heap[w.heap.size]? = some (.cells cs 27) ∧ LayR wr (w.heap.size + 1) 60 4 I k ∧ Below w.heap.size w wr)
  case atStart =>
    exact ⟨0, rfl, rfl, heap_old _ (heap_new _ _), ⟨⟨_, heap_new2 _ _ _, rfl⟩, fun i h => by omega⟩, ((Below.refl _ _).alloc (Nat.le_refl _) _).alloc (by simp) _⟩
  case round =>
    obtain ⟨k, hk, rfl, hbox, hlay, hb⟩ := hrel
    by_cases hlt : k < 4
    · have hc := hI.at hbox hlt
      obtain ⟨c0, c1, c2, c3, c4, c5, c6, c7, c8⟩ := hc
      have fz := hlay.row.fz
      obtain ⟨x0, d0⟩ := hlay.row.ex (o := k * 9) (by omega)
      obtain ⟨x1, d1⟩ := hlay.row.ex (o := k * 9 + 1) (by omega)
      obtain ⟨x2, d2⟩ := hlay.row.ex (o := k * 9 + 2) (by omega)
      obtain ⟨x3, d3⟩ := hlay.row.ex (o := k * 9 + 3) (by omega)
      obtain ⟨x4, d4⟩ := hlay.row.ex (o := k * 9 + 4) (by omega)
      obtain ⟨x5, d5⟩ := hlay.row.ex (o := k * 9 + 5) (by omega)
      obtain ⟨x6, d6⟩ := hlay.row.ex (o := k * 9 + 6) (by omega)
      obtain ⟨x7, d7⟩ := hlay.row.ex (o := k * 9 + 7) (by omega)
      obtain ⟨x8, d8⟩ := hlay.row.ex (o := k * 9 + 8) (by omega)
      have s0 : w.heap.size < wr.heap.size := by have := hlay.row.lt; omega
      have s1 : w.heap.size + 1 < wr.heap.size := hlay.row.lt
      have hk' : (k : Int) < 4 := by omega
      have HL := hide (And.intro hbox (And.intro hlay hb))
      have HI := hide hI
      have HO := hide hL
      have HU := hide hU
      clear hlay hI hL hU hbox hb
      go_wp2_with (go_at_call 34; refine zzto34 (I k) _ _ (fun w1 hb1 => ?_); obtain ⟨hc, hf⟩ := bcell hb1; have HB := hide hb1; clear hb1)
      go_roundg (gk - 1)
      case rel => exact ⟨k + 1, by omega, by go_num, (setCells_other (w.heap.size + 1) (I k).cells (k * 9) _ _ (by omega)).trans (blk HB.out HL.out.1 s0), HL.out.2.1.step hlt HB.out, Below.setCells' (w.heap.size + 1) (by omega) (I k).cells (k * 9) _ (HL.out.2.2.trans (HB.out.mono (by omega)))⟩
      case measure => omega
    · obtain rfl : k = 4 := by omega
      have s1 : w.heap.size + 1 < wr.heap.size := hlay.row.lt
      obtain ⟨w0, rfl⟩ : ∃ w0, w0 = wr := ⟨wr, rfl⟩
      have HL := hide (And.intro hlay hb)
      have HI := hide hI
      clear hbox hlay hb hI hk hlt
      go_wp2
      go_loopg [12] m (fun g i wr => ∃ k : Nat, k + g = m ∧ i = .int .i64 k ∧ LayR wr (w.heap.size + 1) 60 4 I 4 ∧ LayR wr w0.heap.size 43 m L k ∧ Below w.heap.size w wr)
      case atStart => exact ⟨0, by omega, rfl, HL.out.1.below ((Below.refl _ _).alloc (Nat.le_refl _) _), ⟨hms ▸ Row.new _ _ _, fun i h => by omega⟩, HL.out.2.alloc (by omega) _⟩
      case round =>
        clear HL
        obtain ⟨k, hk, rfl, hz, hlay, hb⟩ := hrel
        by_cases hlt : k < m
        · obtain ⟨b, o, rfl, hbs, hc⟩ := (hL.below hb) k hlt
          obtain ⟨c0, c1, c2, c3, c4, c5, c6, c7, c8⟩ := hc
          have fz := hlay.row.fz
          obtain ⟨x0, d0⟩ := hlay.row.ex (o := k * 9) (by omega)
          obtain ⟨x1, d1⟩ := hlay.row.ex (o := k * 9 + 1) (by omega)
          obtain ⟨x2, d2⟩ := hlay.row.ex (o := k * 9 + 2) (by omega)
          obtain ⟨x3, d3⟩ := hlay.row.ex (o := k * 9 + 3) (by omega)
          obtain ⟨x4, d4⟩ := hlay.row.ex (o := k * 9 + 4) (by omega)
          obtain ⟨x5, d5⟩ := hlay.row.ex (o := k * 9 + 5) (by omega)
          obtain ⟨x6, d6⟩ := hlay.row.ex (o := k * 9 + 6) (by omega)
          obtain ⟨x7, d7⟩ := hlay.row.ex (o := k * 9 + 7) (by omega)
          obtain ⟨x8, d8⟩ := hlay.row.ex (o := k * 9 + 8) (by omega)
          have s0 : w0.heap.size < wr.heap.size := hlay.row.lt
          have hsz := hb.size
          have HL := hide (And.intro hz (And.intro hlay hb))
          clear hlay hL hU hb hz
          go_wp2_with (go_at_call 34; refine zzto34 (L k) _ _ (fun w1 hb1 => ?_); obtain ⟨hc, hf⟩ := bcell hb1; have HB := hide hb1; clear hb1)
          go_roundg (gk - 1)
          case rel => exact ⟨k + 1, by omega, by go_num, HL.out.1.other HB.out (by omega) (L k).cells, HL.out.2.1.step hlt HB.out, Below.setCells' w0.heap.size (by omega) (L k).cells (k * 9) _ (HL.out.2.2.trans (HB.out.mono hsz))⟩
          case measure => omega
        · obtain rfl : k = m := by omega
          obtain ⟨zc, hzc, hzn⟩ := hz.row
          have hI2 := hide (hz.ipAt hzc)
          have hL2 : OtAt wr (some ⟨w0.heap.size, 0, none⟩) k L := fun i hi => ⟨_, _, rfl, hlay.row.lt, by simpa using hlay.ip i hi⟩
          have hU2 := hU.below hb
          have hs := hide (And.intro hL2 (And.intro hU2 hb))
          clear hz hlay hL2 hU2 hL hU hk hlt hb
          go_wp2_with (first | (refine wpList_load_row rfl 60 _ rfl (w.heap.size + 1) rfl 60 zc (0, 0) _ hzc Try.underlying60 rfl (by rw [hzn]; exact Try.size60) ?_) | (go_at_call 35; refine mk35 _ zc I hI2.out N hN _ L k _ hm hs.out.1 _ u _ hu T hs.out.2.1 hT hTi hd hl _ (fun s S w' h1 h2 h3 h4 h5 h6 h7 h8 h9 => ?_); have HA := hide (And.intro h1 (And.intro h2 (And.intro h3 (And.intro h4 (And.intro h5 (And.intro h6 (And.intro h7 (And.intro h8 h9)))))))); clear h1 h2 h3 h4 h5 h6 h7 h8 h9))
          obtain ⟨h1, h2, h3, h4, h5, h6, h7, h8, h9⟩ := HA.out
          exact hR s S _ (h1.base hs.out.2.2.size) h2 h3 h4 h5 h6 h7 h8 (hs.out.2.2.trans (h9.mono hs.out.2.2.size))

end Go.Proofs.Qxb6605402a
