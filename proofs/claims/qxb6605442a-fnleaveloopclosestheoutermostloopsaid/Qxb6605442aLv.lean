import Derived.Test.Qxb6605442aLl
namespace Go.Proofs.Qxb6605442a
open Go.RowKit
set_option linter.unusedVariables false
set_option linter.unusedSimpArgs false

/-- Is x among the first k of X? -/
def mem (X : Nat → Nat) : Nat → Nat → Bool
  | 0, _ => false
  | k + 1, x => mem X k x || (X k == x)
/-- The joins behind the first loop's rounds up to k. -/
def tk (T : Nat → Int) (l0 : Nat) (last : Int) (k : Nat) : Nat → Int := fun i => if l0 ≤ i ∧ i < k then last else T i
def aK (X : Nat → Nat) (tq : Nat → Int) (made : Int) (k : Nat) : Nat → Int := fun x => if mem X k x = true then made else tq x
def hK (X : Nat → Nat) (th : Nat → Int) (jo : Nat → Bool) (last : Int) (k : Nat) : Nat → Int := fun x => if (mem X k x && jo x) = true then last else th x
def jK (X : Nat → Nat) (jo : Nat → Bool) (k : Nat) : Nat → Bool := fun x => jo x && !mem X k x

theorem mem_same (X : Nat → Nat) (k : Nat) : mem X (k + 1) (X k) = true := by simp [mem]
theorem mem_other (X : Nat → Nat) (k : Nat) {x : Nat} (e : ¬ x = X k) : mem X (k + 1) x = mem X k x := by
  show (mem X k x || (X k == x)) = _
  have : (X k == x) = false := by simp; exact fun h => e h.symm
  rw [this, Bool.or_false]
theorem aK_succ (X : Nat → Nat) (tq : Nat → Int) (made : Int) (k : Nat) : (fun x => if x = X k then made else aK X tq made k x) = aK X tq made (k + 1) := by
  funext x
  unfold aK
  by_cases e : x = X k
  · rw [if_pos e, if_pos (by rw [e]; exact mem_same X k)]
  · rw [if_neg e, mem_other X k e]
theorem hK_yes (X : Nat → Nat) (th : Nat → Int) (jo : Nat → Bool) (last : Int) (k : Nat) (h : jK X jo k (X k) = true) : (fun x => if x = X k then last else hK X th jo last k x) = hK X th jo last (k + 1) := by
  funext x
  simp only [jK, Bool.and_eq_true] at h
  unfold hK
  by_cases e : x = X k
  · rw [if_pos e, if_pos (by rw [e, mem_same, h.1]; rfl)]
  · rw [if_neg e, mem_other X k e]
theorem hK_no (X : Nat → Nat) (th : Nat → Int) (jo : Nat → Bool) (last : Int) (k : Nat) (h : jK X jo k (X k) = false) : hK X th jo last k = hK X th jo last (k + 1) := by
  funext x
  unfold hK
  by_cases e : x = X k
  · rw [e, mem_same]
    simp only [jK] at h
    cases hj : jo (X k) <;> cases hm : mem X k (X k) <;> simp_all
  · rw [mem_other X k e]
theorem jK_yes (X : Nat → Nat) (jo : Nat → Bool) (k : Nat) : (fun x => if x = X k then false else jK X jo k x) = jK X jo (k + 1) := by
  funext x
  unfold jK
  by_cases e : x = X k
  · rw [if_pos e, e, mem_same]; simp
  · rw [if_neg e, mem_other X k e]
theorem jK_no (X : Nat → Nat) (jo : Nat → Bool) (k : Nat) (h : jK X jo k (X k) = false) : jK X jo k = jK X jo (k + 1) := by
  funext x
  unfold jK at h ⊢
  by_cases e : x = X k
  · rw [e, mem_same, h]; simp
  · rw [mem_other X k e]
theorem JK.setI {w : World} {s jb J : Nat} {cnt lj : Int} {nj : Nat} {T : Nat → Int} (h : JK w s jb J cnt lj nj T) (v : Value) : JK (w.setCell ⟨s, 26, none⟩ v) s jb J cnt lj nj T := by
  have hj : (w.setCell ⟨s, 26, none⟩ v).heap[jb]? = w.heap[jb]? := setCell_other _ _ h.ne.symm
  exact ⟨h.row.setCell _ _, h.rj.of_block hj, (cell_other (.inr (by omega))).trans h.cj, (cell_other (.inr (by omega))).trans h.cc, (cell_other (.inr (by omega))).trans h.cl, fun i hi => (cell_blk hj).trans (h.t i hi), h.ne⟩
theorem LK.setI {w : World} {s lb K : Nat} {ia : Option Addr} {il ic nl : Nat} {tq th : Nat → Int} {jo : Nat → Bool} (h : LK w s lb K ia il ic nl tq th jo) (ia' : Option Addr) (il' ic' : Nat) : LK (w.setCell ⟨s, 26, none⟩ (.slice ia' il' ic')) s lb K ia' il' ic' nl tq th jo := by
  have hj : (w.setCell ⟨s, 26, none⟩ (.slice ia' il' ic')).heap[lb]? = w.heap[lb]? := setCell_other _ _ h.ne.symm
  exact ⟨h.row.setCell _ _, h.rl.of_block hj, (cell_other (.inr (by omega))).trans h.clo, cell_same h.row (by omega), fun i hi => (cell_blk hj).trans (h.a i hi), fun i hi => (cell_blk hj).trans (h.h i hi), fun i hi => (cell_blk hj).trans (h.j i hi), h.ne⟩

theorem JK.congr {w : World} {s jb J : Nat} {cnt lj : Int} {nj : Nat} {T T' : Nat → Int} (h : JK w s jb J cnt lj nj T) (e : ∀ i, i < nj → T' i = T i) : JK w s jb J cnt lj nj T' :=
  ⟨h.row, h.rj, h.cj, h.cc, h.cl, fun i hi => by rw [e i hi]; exact h.t i hi, h.ne⟩
theorem tk_zero (T : Nat → Int) (l0 : Nat) (last : Int) : tk T l0 last l0 = T := by
  funext i; unfold tk; rw [if_neg (by omega)]

set_option maxHeartbeats 2000000 in
set_option maxRecDepth 100000 in
theorem leave22 (w : World) (s jb lb fb J K q : Nat) (cnt last made : Int) (l0 : Nat) (ia : Option Addr) (ic : Nat) (X : Nat → Nat) (T tq th : Nat → Int) (jo : Nat → Bool) (B : Nat)
    (hlast : IntKind.i64.wrap (cnt - 1) = last) (hJ : JK w s jb J cnt l0 J T) (hL : LK w s lb K ia q ic K tq th jo) (hX : ∀ i, i < q → ∃ b o, ia = some ⟨b, o, none⟩ ∧ b < B ∧ w.cell? ⟨b, o + i, none⟩ = some (.int .u32 (X i : Int))) (hXK : ∀ i, i < q → X i < K) (hf : w.cell? ⟨fb, 22, none⟩ = some (.int .i64 made))
    (n1 : fb ≠ jb) (n2 : fb ≠ lb) (n3 : jb ≠ lb) (b1 : B ≤ jb) (b2 : B ≤ lb) (b3 : B ≤ s) (hJ16 : J ≤ 65536) (hK16 : K ≤ 65536) (hq16 : q ≤ 65536) (hl63 : l0 ≤ 9223372036854775807) (hqc : q ≤ ic)
    (R : Ending → World → Prop) (hR : ∀ w' ia' ic', JK w' s jb J cnt l0 J (tk T l0 last J) → LK w' s lb K ia' 0 ic' K (aK X tq made q) (hK X th jo last q) (jK X jo q) → Below B w w' → R (.returned (.tuple #[])) w') :
    Calls Try.prog 22 #[.pointer (some ⟨s, 0, none⟩), .pointer (some ⟨fb, 0, none⟩)] w R := by
  have cc := hJ.cc
  have cl := hJ.cl
  have HJ := hide hJ
  have HL := hide hL
  have HX := hide hX
  have HF := hide hf
  clear hJ hL hX hf
  go_enter Try.func22, Try.ntmps22
  go_wp2
  go_loopg [5] (max J l0 - l0) (fun g t wr => ∃ k : Nat, l0 ≤ k ∧ k + g = max J l0 ∧ t = .int .i64 k ∧ JK wr s jb J cnt l0 J (tk T l0 last k) ∧ Below B w wr ∧ (∀ b, b ≠ jb → wr.heap[b]? = w.heap[b]?))
  case atStart => exact ⟨l0, Nat.le_refl _, by omega, rfl, by rw [tk_zero]; exact HJ.out, Below.refl _ _, fun _ _ => rfl⟩
  case round =>
    obtain ⟨k, hk0, hk, rfl, hj, hb, hfr⟩ := hrel
    by_cases hlt : k < J
    · have cj := hj.cj
      have ct := hj.t k hlt
      have fz := hj.rj.fz
      have H1 := hide (And.intro hj (And.intro hb hfr))
      clear hj hb hfr cc cl
      go_wp2
      go_roundg (gk - 1)
      case rel =>
        refine ⟨k + 1, by omega, by omega, by go_num, ?_, H1.out.2.1.setCell (p := ⟨jb, k * 4 + 3, none⟩) b1 _, fun b hb => (setCell_other _ _ hb).trans (H1.out.2.2 b hb)⟩
        refine H1.out.1.put hlt last (fun j hj hne => ⟨hj, ?_⟩) ?_
        · unfold tk
          by_cases h1 : l0 ≤ j ∧ j < k
          · rw [if_pos h1, if_pos (by omega)]
          · rw [if_neg h1, if_neg (by omega)]
        · unfold tk; rw [if_pos (by omega)]
      case measure => omega
    · have cj := hj.cj
      have hj' := hj.congr (T' := tk T l0 last J) (fun i hi => by unfold tk; by_cases h : l0 ≤ i; rw [if_pos (by omega), if_pos (by omega)]; rw [if_neg (by omega), if_neg (by omega)])
      obtain ⟨w1, rfl⟩ : ∃ w1, w1 = wr := ⟨_, rfl⟩
      have hL1 := HL.out.keep (w' := w1) (hfr s HJ.out.ne) (hfr lb n3.symm)
      have hf1 : w1.cell? ⟨fb, 22, none⟩ = some (.int .i64 made) := (cell_blk (hfr fb n1)).trans HF.out
      have hX1 : Hid (∀ i, i < q → ∃ b o, ia = some ⟨b, o, none⟩ ∧ b < B ∧ w1.cell? ⟨b, o + i, none⟩ = some (.int .u32 (X i : Int))) := fun i hi => by
        obtain ⟨b, o, e, hb', hc⟩ := HX.out i hi
        exact ⟨b, o, e, hb', (cell_blk (hfr b (by omega))).trans hc⟩
      have ci := hL1.ci
      have H1 := hide (And.intro hj' (And.intro hb hL1))
      have HF1 := hide hf1
      have hnk : (J : Int) ≤ (k : Int) := by omega
      clear hj hj' hb hfr cc cl hL1 hf1 hlt hk
      go_wp2
      clear ci cj
      go_loopg [42] q (fun g t wr => ∃ k : Nat, k + g = q ∧ t = .int .i64 k ∧ LK wr s lb K ia q ic K (aK X tq made k) (hK X th jo last k) (jK X jo k) ∧ Below B w1 wr ∧ (∀ b, b ≠ lb → wr.heap[b]? = w1.heap[b]?))
      case atStart =>
        refine ⟨0, by omega, rfl, ?_, Below.refl _ _, fun _ _ => rfl⟩
        have e1 : aK X tq made 0 = tq := by funext x; rfl
        have e2 : hK X th jo last 0 = th := by funext x; rfl
        have e3 : jK X jo 0 = jo := by funext x; simp [jK, mem]
        rw [e1, e2, e3]
        exact H1.out.2.2
      case round =>
        obtain ⟨k, hk, rfl, hl, hb, hfr⟩ := hrel
        by_cases hlt : k < q
        · obtain ⟨b', o', rfl, hbB, hc⟩ := hX1.out k hlt
          have hx := hXK k hlt
          have hc' := (cell_blk (hfr b' (by omega))).trans hc
          have cf := (cell_blk (hfr fb n2)).trans HF1.out
          have clo := hl.clo
          have ca := hl.a _ hx
          have ch := hl.h _ hx
          have cz := hl.j _ hx
          have fz := hl.rl.fz
          have hxi : ((X k : Nat) : Int) < (K : Int) := by omega
          cases hv : jK X jo k (X k) with
          | true =>
            rw [hv] at cz
            have H2 := hide (And.intro hl (And.intro hb hfr))
            have HV := hide hv
            clear hl hb hfr hc hv
            go_wp2
            go_roundg (gk - 1)
            case rel =>
              refine ⟨k + 1, by omega, by go_num, ?_, ((H2.out.2.1.setCell (p := ⟨lb, X k * 10 + 6, none⟩) b2 _).setCell (p := ⟨lb, X k * 10 + 7, none⟩) b2 _).setCell (p := ⟨lb, X k * 10 + 9, none⟩) b2 _, fun b hb => (setCell_other _ _ hb).trans ((setCell_other _ _ hb).trans ((setCell_other _ _ hb).trans (H2.out.2.2 b hb)))⟩
              have := ((H2.out.1.putA hx made).putH hx last).putJ hx false
              rw [aK_succ, hK_yes _ _ _ _ _ HV.out, jK_yes] at this
              exact this
            case measure => omega
          | false =>
            rw [hv] at cz
            have H2 := hide (And.intro hl (And.intro hb hfr))
            have HV := hide hv
            clear hl hb hfr hc hv
            go_wp2
            go_roundg (gk - 1)
            case rel =>
              refine ⟨k + 1, by omega, by go_num, ?_, H2.out.2.1.setCell (p := ⟨lb, X k * 10 + 6, none⟩) b2 _, fun b hb => (setCell_other _ _ hb).trans (H2.out.2.2 b hb)⟩
              have := H2.out.1.putA hx made
              rw [aK_succ, hK_no _ _ _ _ _ HV.out, jK_no _ _ _ HV.out] at this
              exact this
            case measure => omega
        · obtain rfl : k = q := by omega
          have ci := hl.ci
          have fz := hl.row.fz
          have H2 := hide (And.intro hl (And.intro hb hfr))
          clear hl hb hfr hlt hk
          go_wp2
          go_end0
          refine hR _ ia ic ?_ (H2.out.1.setI ia 0 ic) ?_
          · exact (H1.out.1.keep (H2.out.2.2 s H2.out.1.ne) (H2.out.2.2 jb n3)).setI _
          · exact (H1.out.2.1.trans H2.out.2.1).setCell (p := ⟨s, 26, none⟩) b3 _

end Go.Proofs.Qxb6605442a
