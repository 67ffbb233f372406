import Derived.Test.Qxb6600489aLaw
import Derived.ProofKit
import Derived.OpenShut
import Derived.ShutString
import Derived.ChangeOld
import Derived.Below
import Derived.Deep.Slices
namespace Go.Proofs.Qxb6600489a
open Go.ChangeShapes Go.WideShapes Go.ChangeAt Go.RowKit Go.Deep
set_option linter.unusedVariables false
set_option linter.unusedSimpArgs false

set_option maxHeartbeats 4000000 in
set_option maxRecDepth 100000 in
theorem outA (ap ao ay : Option Addr) (np no ny cp co cy : Nat) (w : World) (h1 : np ≤ 9223372036854775807) (h2 : no ≤ 9223372036854775807) (h3 : ny ≤ 9223372036854775807) (m : ¬ np ≤ 4096)
    (R : Ending → World → Prop) (hR : ∀ w', Below w.heap.size w w' → R (.returned (.bool true)) w') : Calls Try.prog 3 #[.slice ap np cp, .slice ao no co, .slice ay ny cy] w R := by
  go_enter Try.func3, Try.ntmps3
  go_wp2_with (go_at_call 6; refine bytes6 ap ao ay np no ny cp co cy w h1 h2 h3 _ (fun b => ?_); cases b)
  all_goals exact Below.refl _ _
set_option maxHeartbeats 4000000 in
set_option maxRecDepth 100000 in
theorem outB (ap ao ay : Option Addr) (np no ny cp co cy : Nat) (w : World) (h1 : np ≤ 9223372036854775807) (h2 : no ≤ 9223372036854775807) (h3 : ny ≤ 9223372036854775807) (m0 : np ≤ 4096) (m : ¬ no ≤ 4096)
    (R : Ending → World → Prop) (hR : ∀ w', Below w.heap.size w w' → R (.returned (.bool true)) w') : Calls Try.prog 3 #[.slice ap np cp, .slice ao no co, .slice ay ny cy] w R := by
  go_enter Try.func3, Try.ntmps3
  go_wp2_with (go_at_call 6; refine bytes6 ap ao ay np no ny cp co cy w h1 h2 h3 _ (fun b => ?_); cases b)
  all_goals exact Below.refl _ _
set_option maxHeartbeats 4000000 in
set_option maxRecDepth 100000 in
theorem outC (ap ao ay : Option Addr) (np no ny cp co cy : Nat) (w : World) (h1 : np ≤ 9223372036854775807) (h2 : no ≤ 9223372036854775807) (h3 : ny ≤ 9223372036854775807) (m0 : np ≤ 4096) (m1 : no ≤ 4096) (m : ¬ ny ≤ 4096)
    (R : Ending → World → Prop) (hR : ∀ w', Below w.heap.size w w' → R (.returned (.bool true)) w') : Calls Try.prog 3 #[.slice ap np cp, .slice ao no co, .slice ay ny cy] w R := by
  go_enter Try.func3, Try.ntmps3
  go_wp2_with (go_at_call 6; refine bytes6 ap ao ay np no ny cp co cy w h1 h2 h3 _ (fun b => ?_); cases b)
  all_goals exact Below.refl _ _

theorem own : ownKnob Try.prog.godebug = none := by kernel_rfl
theorem laidOut : laidOutB Try.prog = true := by kernel_rfl
theorem c44 : Try.prog.cellsOf 44 = 3 := by kernel_rfl
theorem c5 : Try.prog.cellsOf 5 = 1 := by kernel_rfl
theorem c40 : Try.prog.cellsOf 40 = 1 := by kernel_rfl

section
variable {H : Type} {enc : TypeId × Value → H} {w : World} {base : Nat} {spare : Nat → Bool} {held : Bool} {fuel : Nat} {cs : List Value} {x : DataW H × List MemPlace}
theorem get1 {cs : List Value} {i : Nat} {v : Value} (h : (cs.drop i).take 1 = [v]) : cs[i]? = some v := by
  have := congrArg (fun l => l[0]?) h
  simpa using this
theorem open_tr (h : DataW.trod enc Try.prog w base spare held fuel 44 cs = some x) : ∃ t : Tr, cs = [.int .u8 t.ty, .int .u16 t.id, .int .u16 t.kl] := by
  obtain ⟨xs, n, _, _, hl, hxl, hf⟩ := DataW.trod_struct Try.underlying44 h
  rw [c44] at hl
  have hxl3 : xs.length = 3 := hxl
  have gx : ∀ i, i < 3 → ∃ y, xs[i]? = some y := fun i hi => ⟨xs[i], List.getElem?_eq_getElem (by omega)⟩
  obtain ⟨y0, e0⟩ := gx 0 (by omega)
  have g0 := (hf 0 _ rfl).trans e0
  obtain ⟨v0, q0, _⟩ := DataW.trod_int Try.underlying5 g0
  obtain ⟨y1, e1⟩ := gx 1 (by omega)
  have g1 := (hf 1 _ rfl).trans e1
  obtain ⟨v1, q1, _⟩ := DataW.trod_int Try.underlying40 g1
  obtain ⟨y2, e2⟩ := gx 2 (by omega)
  have g2 := (hf 2 _ rfl).trans e2
  obtain ⟨v2, q2, _⟩ := DataW.trod_int Try.underlying40 g2
  have r0 := get1 (i := 0) (cs := cs) (by simpa [c5] using q0)
  have r1 := get1 (i := 1) (cs := cs) (by simpa [c40] using q1)
  have r2 := get1 (i := 2) (cs := cs) (by simpa [c40] using q2)
  refine ⟨⟨v0, v1, v2⟩, ?_⟩
  match cs, hl, r0, r1, r2 with
  | [a, b, c], _, r0, r1, r2 =>
    simp at r0 r1 r2
    rw [r0, r1, r2]
/-- a slice of transforms -/
theorem open_ts {d : DataW H} {p : List MemPlace} {a : Option Addr} {n cap : Nat} (h : DataW.Trod enc Try.prog w base spare held 22 (.slice a n cap) d p) :
    (∃ P : Nat → Tr, TsAt w a n P) ∧ n ≤ 9223372036854775807 := by
  obtain ⟨fuel, hf⟩ := h
  rcases open_slice Try.underlying22 hf with ⟨hcs, _⟩ | ⟨ad, len, cap', m, k, D, Pl, hcs, _, hl, hm, hme, _, hcell⟩
  · simp [Value.cells] at hcs
    obtain ⟨rfl, rfl, rfl⟩ := hcs
    exact ⟨⟨fun _ => ⟨0, 0, 0⟩, fun i hi => by omega⟩, by omega⟩
  · simp [Value.cells] at hcs
    obtain ⟨rfl, rfl, rfl⟩ := hcs
    refine ⟨?_, by unfold maxLen at hm; omega⟩
    have hlm : n ≤ m := by rw [hme]; split <;> omega
    have key : ∀ i, i < n → ∃ t : Tr, w.cells? base (ad.add (i * 3)) 3 = some [.int .u8 t.ty, .int .u16 t.id, .int .u16 t.kl] := fun i hi => by
      obtain ⟨cs', h1, h2⟩ := hcell i (by omega)
      rw [c44] at h1
      obtain ⟨t, rfl⟩ := open_tr h2
      exact ⟨t, h1⟩
    have : Inhabited Tr := ⟨⟨0, 0, 0⟩⟩
    obtain ⟨P, hP⟩ : ∃ P : Nat → Tr, ∀ i, i < n → w.cells? base (ad.add (i * 3)) 3 = some [.int .u8 (P i).ty, .int .u16 (P i).id, .int .u16 (P i).kl] := choose_lt key
    refine ⟨P, fun i hi => ?_⟩
    have h1 := hP i hi
    have hblk := World.cells?_block h1 (by omega)
    obtain ⟨_, _, h3⟩ := World.cells?_some h1
    have hs0 := World.cells?_some (hP 0 (by omega))
    have hspot : ad.spot = none := by
      have h4 := hs0.2.2 0 (by omega)
      have : w.cell? (ad.add (0 * 3)) = some (.int .u8 (P 0).ty) := by simpa [Addr.add] using h4
      simpa [Addr.add] using World.cell?_spot this
    obtain ⟨b, o, sp⟩ := ad
    simp only at hspot
    subst hspot
    have g : ∀ j, j < 3 → w.cell? ⟨b, o + i * 3 + j, none⟩ = [Value.int .u8 (P i).ty, .int .u16 (P i).id, .int .u16 (P i).kl][j]? := fun j hj => by
      have := h3 j hj
      rw [Addr.add_mid, Addr.add_mid] at this
      exact this
    refine ⟨b, o, rfl, ?_, ⟨g 0 (by omega), g 1 (by omega), g 2 (by omega)⟩⟩
    rw [Addr.add_mid] at hblk; exact hblk
/-- a slice of bytes -/
theorem open_bs {d : DataW H} {p : List MemPlace} {a : Option Addr} {n cap : Nat} (h : DataW.Trod enc Try.prog w base spare held 23 (.slice a n cap) d p) : (∃ Y : Nat → Int, BtAt .u8 w a n Y) ∧ n ≤ 9223372036854775807 := by
  obtain ⟨fuel, hf⟩ := h
  rcases open_ints Try.underlying23 Try.underlying5 c5 hf with ⟨hcs, _⟩ | ⟨ad, l, c, zs, hcs, _, hl, hm, hz, _, hcell, hwz⟩
  · simp [Value.cells] at hcs
    obtain ⟨rfl, rfl, rfl⟩ := hcs
    exact ⟨⟨fun _ => 0, fun i hi => by omega⟩, by omega⟩
  · simp [Value.cells] at hcs
    obtain ⟨rfl, rfl, rfl⟩ := hcs
    have hlz : n ≤ zs.length := by rw [hz]; split <;> omega
    refine ⟨⟨fun i => zs.getD i 0, fun i hi => ?_⟩, by unfold maxLen at hm; omega⟩
    have hspot : ad.spot = none := by simpa [Addr.add] using World.cell?_spot (hcell 0 (by omega))
    obtain ⟨b, o, sp⟩ := ad
    simp only at hspot
    subst hspot
    have h1 := hcell i (by omega)
    rw [Addr.add_mid] at h1
    exact ⟨b, o, rfl, block_lt h1, h1⟩
end

set_option maxRecDepth 100000 in
theorem lifted (os : Os) (started : os.Started) (H : Type) (enc : TypeId × Value → H) :
    ReturnsInHanded {} Try.checked os 3 .any (Rows.fnPickMatchesTypeMajorModelSpec.pre6 enc Try.prog Try.f3 Rows.fnPickMatchesTypeMajorModelRow.domain false) (Rows.fnPickMatchesTypeMajorModelSpec.post enc Try.prog Try.f3 false true false false) := by
  refine returnsInHanded_of_change (C := Try.checked) own started (by kernel_rfl) Try.func3
    (ChangeSpec.witness6 (enc := enc) (C := Try.checked) false ⟨#[], #[.slice none 0 0, .slice none 0 0, .slice none 0 0], []⟩ 8 (by kernel_rfl) (by kernel_rfl) (by kernel_rfl) (by kernel_rfl)) ?_
  intro W base args ds gs before hval0 hW hcnd _
  have hval : ∀ (j : Nat) t v, Try.f3.params[j]? = some t → args[j]? = some v → Value.okWide Try.prog W .any base t v := hval0
  have hW' := hW
  obtain ⟨p, q, hA0, hV, rfl, hfz, hnd⟩ := hW
  have hA : DataW.TrodAll enc Try.prog W 0 (fun _ => true) true Try.f3.params.toList args.toList ds p := hA0
  rw [Try.params3] at hA hval
  obtain ⟨v0, vs0, d0, ds0, p0, q0, hargs, rfl, rfl, h0, r0⟩ := trodAll_cons hA
  obtain ⟨v1, vs1, d1, ds1, p1, q1, rfl, rfl, rfl, h1, r1⟩ := trodAll_cons r0
  obtain ⟨v2, vs2, d2, ds2, p2, q2, rfl, rfl, rfl, h2, r2⟩ := trodAll_cons r1
  obtain ⟨rfl, rfl, rfl⟩ := trodAll_nil r2
  obtain rfl : args = #[v0, v1, v2] := by cases args; simp_all
  obtain ⟨rfl, rfl⟩ := trodVars_none hV
  have k0 := h0
  have k1 := h1
  have k2 := h2
  have lt0 : ∀ x ∈ p0, x.block < W.heap.size := by obtain ⟨m, hm⟩ := k0; exact DataW.trod_lt m _ _ _ hm
  have lt1 : ∀ x ∈ p1, x.block < W.heap.size := by obtain ⟨m, hm⟩ := k1; exact DataW.trod_lt m _ _ _ hm
  have lt2 : ∀ x ∈ p2, x.block < W.heap.size := by obtain ⟨m, hm⟩ := k2; exact DataW.trod_lt m _ _ _ hm
  obtain ⟨a0, n0, cap0, rfl⟩ := okWide_slice Try.underlying22 (hval 0 22 v0 rfl rfl)
  obtain ⟨a1, n1, cap1, rfl⟩ := okWide_slice Try.underlying22 (hval 1 22 v1 rfl rfl)
  obtain ⟨a2, n2, cap2, rfl⟩ := okWide_slice Try.underlying23 (hval 2 23 v2 rfl rfl)
  obtain ⟨⟨P, hP⟩, m0⟩ := open_ts h0
  obtain ⟨⟨O, hO⟩, m1⟩ := open_ts h1
  obtain ⟨⟨Y, hY⟩, m2⟩ := open_bs h2
  clear hA0 hval0
  have law : ∀ R : Ending → World → Prop, (∀ w', Below W.heap.size W w' → R (.returned (.bool true)) w') → Calls Try.prog 3 #[.slice a0 n0 cap0, .slice a1 n1 cap1, .slice a2 n2 cap2] W R := fun R hR => by
    by_cases e0 : n0 ≤ 4096
    case neg => exact outA a0 a1 a2 n0 n1 n2 cap0 cap1 cap2 W m0 m1 m2 e0 R hR
    by_cases e1 : n1 ≤ 4096
    case neg => exact outB a0 a1 a2 n0 n1 n2 cap0 cap1 cap2 W m0 m1 m2 e0 e1 R hR
    by_cases e2 : n2 ≤ 4096
    case neg => exact outC a0 a1 a2 n0 n1 n2 cap0 cap1 cap2 W m0 m1 m2 e0 e1 e2 R hR
    exact law3main a0 a1 a2 n0 n1 n2 cap0 cap1 cap2 P O Y W e0 e1 e2 hP hO hY R hR
  refine law _ (fun W' bel => ?_)
  exact ⟨_, rfl, _, _, _, [], _, [], hW', trodAll_mk1 (shut_bool Try.underlying4 _), (trodAll_cons_mk (Below.trod laidOut (by kernel_rfl) (of_decide_eq_true (by kernel_rfl)) k0 bel lt0) (trodAll_cons_mk (Below.trod laidOut (by kernel_rfl) (of_decide_eq_true (by kernel_rfl)) k1 bel lt1) (trodAll_cons_mk (Below.trod laidOut (by kernel_rfl) (of_decide_eq_true (by kernel_rfl)) k2 bel lt2) trodAll_mk0))), rfl, bel.frame _, fun h => by cases h⟩

theorem over : Rows.fnPickMatchesTypeMajorModelRow.holds Try.pinned (OpenSpec.ofChange Rows.fnPickMatchesTypeMajorModelSpec) :=
  OpenClaim.holds_of_wide 3 Try.f3 rfl rfl rfl rfl rfl rfl rfl ⟨rfl, rfl, rfl, rfl, rfl⟩ rfl rfl rfl rfl rfl (by kernel_rfl) Try.func3 (by kernel_rfl)
    (of_decide_eq_true (by kernel_rfl)) (by unfold Func.isWrapper; first | (rw [if_pos (by decide +kernel)]; kernel_rfl) | (rw [if_neg (by decide +kernel)]; exact ⟨rfl, rfl⟩))
    (fun os started H enc _ => lifted os started H enc)

theorem pickProved : Rows.FnPickMatchesTypeMajorModelSaid := over

end Go.Proofs.Qxb6600489a
