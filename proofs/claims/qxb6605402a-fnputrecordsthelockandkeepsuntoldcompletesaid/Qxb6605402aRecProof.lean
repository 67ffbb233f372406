import Derived.Test.Qxb6605402aLaw5
import Derived.Test.Qxb6605402aOpen
namespace Go.Proofs.Qxb6605402a
open Go.ChangeShapes Go.WideShapes Go.ChangeAt Go.RowKit Go.Deep
open Go.ChangeMaps (open_string shut_string)
set_option linter.unusedVariables false

section
variable {H : Type} {enc : TypeId × Value → H} {w : World} {base : Nat} {spare : Nat → Bool} {held : Bool}
/-- a string by value -/
theorem open_str {r : Reach} {b0 : Nat} {v : Value} {d : DataW H} {p : List MemPlace} (hv : Value.okWide Try.prog w r b0 9 v) (h : DataW.Trod enc Try.prog w base spare held 9 v d p) : ∃ s : ByteArray, v = .string s ∧ s.size ≤ maxLen := by
  obtain ⟨s, e, _, _, hs⟩ := open_string Try.underlying9 hv h
  exact ⟨s, e, hs⟩
/-- a holding by value -/
theorem open_hd {r : Reach} {b0 : Nat} {v : Value} {d : DataW H} {p : List MemPlace} (hv : Value.okWide Try.prog w r b0 24 v) (h : DataW.Trod enc Try.prog w base spare held 24 v d p) :
    ∃ hd : Hold, v = .agg #[.string hd.mode, .int .u64 hd.ver, .bool hd.cdr, .bool hd.loc, .bool hd.tol, .bool hd.wri, .int .u64 hd.tok, .int .u64 hd.sqn] := by
  simp only [Value.okWide, Try.underlying24] at hv
  obtain ⟨cs, rfl, _⟩ := hv
  obtain ⟨fuel, hf⟩ := h
  obtain ⟨hd, e, _⟩ := open_hold hf
  refine ⟨hd, ?_⟩
  have e' : cs.toList = hd.cells := e
  congr 1
  apply Array.toList_inj.1
  exact e'
end

set_option maxRecDepth 100000 in
theorem recLifted (os : Os) (started : os.Started) (H : Type) (enc : TypeId × Value → H) :
    ReturnsInHanded {} Try.checked os 5 .any (Rows.fnPutRecordsTheLockAndKeepsUntoldCompleteSpec.pre6 enc Try.prog Try.f5 Rows.fnPutRecordsTheLockAndKeepsUntoldCompleteRow.domain false) (Rows.fnPutRecordsTheLockAndKeepsUntoldCompleteSpec.post enc Try.prog Try.f5 false true false false) := by
  refine returnsInHanded_of_change (C := Try.checked) ownTry started (by kernel_rfl) Try.func5
    (ChangeSpec.witness6 (enc := enc) (C := Try.checked) false ⟨#[], #[.agg #[.string ⟨#[]⟩, .string ⟨#[]⟩, .int .u64 0, .bool false, .bool false, .bool false, .bool false, .int .u64 0, .int .u64 0, .string ⟨#[]⟩, .string ⟨#[]⟩, .int .u64 0, .bool false, .bool false, .bool false, .bool false, .int .u64 0, .int .u64 0, .string ⟨#[]⟩, .string ⟨#[]⟩, .int .u64 0, .bool false, .bool false, .bool false, .bool false, .int .u64 0, .int .u64 0, .string ⟨#[]⟩, .string ⟨#[]⟩, .int .u64 0, .bool false, .bool false, .bool false, .bool false, .int .u64 0, .int .u64 0], .int .i64 0, .slice none 0 0, .slice none 0 0, .string ⟨#[]⟩, .agg #[.string ⟨#[]⟩, .int .u64 0, .bool false, .bool false, .bool false, .bool false, .int .u64 0, .int .u64 0]], []⟩ 8 (by kernel_rfl) (by kernel_rfl) (by kernel_rfl) (by kernel_rfl)) ?_
  intro W base args ds gs before hval0 hW hcnd _
  have hval : ∀ (j : Nat) t v, Try.f5.params[j]? = some t → args[j]? = some v → Value.okWide Try.prog W .any base t v := hval0
  have hW' := hW
  obtain ⟨p, q, hA0, hV, rfl, hfz, hnd⟩ := hW
  have hA : DataW.TrodAll enc Try.prog W 0 (fun _ => true) true Try.f5.params.toList args.toList ds p := hA0
  rw [Try.params5] at hA hval
  obtain ⟨v0, vs0, d0, ds0, p0, q0, hargs, rfl, rfl, h0, r0⟩ := trodAll_cons hA
  obtain ⟨v1, vs1, d1, ds1, p1, q1, rfl, rfl, rfl, h1, r1⟩ := trodAll_cons r0
  obtain ⟨v2, vs2, d2, ds2, p2, q2, rfl, rfl, rfl, h2, r2⟩ := trodAll_cons r1
  obtain ⟨v3, vs3, d3, ds3, p3, q3, rfl, rfl, rfl, h3, r3⟩ := trodAll_cons r2
  obtain ⟨v4, vs4, d4, ds4, p4, q4, rfl, rfl, rfl, h4, r4⟩ := trodAll_cons r3
  obtain ⟨v5, vs5, d5, ds5, p5, q5, rfl, rfl, rfl, h5, r5⟩ := trodAll_cons r4
  obtain ⟨rfl, rfl, rfl⟩ := trodAll_nil r5
  obtain rfl : args = #[v0, v1, v2, v3, v4, v5] := by cases args; simp_all
  obtain ⟨rfl, rfl⟩ := trodVars_none hV
  have k0 := h0
  have k2 := h2
  have k3 := h3
  have k4 := h4
  have k5 := h5
  have lt0 : ∀ x ∈ p0, x.block < W.heap.size := by obtain ⟨m, hm⟩ := k0; exact DataW.trod_lt m _ _ _ hm
  have lt2 : ∀ x ∈ p2, x.block < W.heap.size := by obtain ⟨m, hm⟩ := k2; exact DataW.trod_lt m _ _ _ hm
  have lt3 : ∀ x ∈ p3, x.block < W.heap.size := by obtain ⟨m, hm⟩ := k3; exact DataW.trod_lt m _ _ _ hm
  have lt4 : ∀ x ∈ p4, x.block < W.heap.size := by obtain ⟨m, hm⟩ := k4; exact DataW.trod_lt m _ _ _ hm
  have lt5 : ∀ x ∈ p5, x.block < W.heap.size := by obtain ⟨m, hm⟩ := k5; exact DataW.trod_lt m _ _ _ hm
  obtain ⟨cs, I, rfl, hcs, hI⟩ := open_ip (hval 0 27 v0 rfl rfl) h0
  obtain ⟨x, rfl, rfl, rfl, wx⟩ := open_int Try.underlying3 (hval 1 3 v1 rfl rfl) h1
  obtain ⟨a2, n2, cap2, rfl⟩ := okWide_slice Try.underlying28 (hval 2 28 v2 rfl rfl)
  obtain ⟨a3, n3, cap3, rfl⟩ := okWide_slice Try.underlying29 (hval 3 29 v3 rfl rfl)
  obtain ⟨L, hL, hlen⟩ := open_ot h2
  obtain ⟨U, hU⟩ := open_ut h3
  obtain ⟨r, rfl, hr⟩ := open_str (hval 4 9 v4 rfl rfl) h4
  obtain ⟨hd, rfl⟩ := open_hd (hval 5 24 v5 rfl rfl) h5
  obtain ⟨mode, ver, cdr, lo, tt, wri, tok, sqn⟩ := hd
  clear hA0 hval0
  refine law5 W cs hcs I hI x a2 L n2 cap2 hL hlen a3 n3 cap3 U hU r hr mode ver cdr lo tt wri tok sqn _ (fun W' bel => ?_)
  exact ⟨_, rfl, _, _, _, [], _, [], hW', trodAll_mk1 (shut_bool Try.underlying4 _), (trodAll_cons_mk (Below.trod laidOutTry (by kernel_rfl) (of_decide_eq_true (by kernel_rfl)) k0 bel lt0) (trodAll_cons_mk (shut_int Try.underlying3 wx) (trodAll_cons_mk (Below.trod laidOutTry (by kernel_rfl) (of_decide_eq_true (by kernel_rfl)) k2 bel lt2) (trodAll_cons_mk (Below.trod laidOutTry (by kernel_rfl) (of_decide_eq_true (by kernel_rfl)) k3 bel lt3) (trodAll_cons_mk (Below.trod laidOutTry (by kernel_rfl) (of_decide_eq_true (by kernel_rfl)) k4 bel lt4) (trodAll_cons_mk (Below.trod laidOutTry (by kernel_rfl) (of_decide_eq_true (by kernel_rfl)) k5 bel lt5) trodAll_mk0)))))), rfl, bel.frame _, fun h => by cases h⟩

theorem recOver : Rows.fnPutRecordsTheLockAndKeepsUntoldCompleteRow.holds Try.pinned (OpenSpec.ofChange Rows.fnPutRecordsTheLockAndKeepsUntoldCompleteSpec) :=
  OpenClaim.holds_of_wide 5 Try.f5 rfl rfl rfl rfl rfl rfl rfl ⟨rfl, rfl, rfl, rfl, rfl⟩ rfl rfl rfl rfl rfl (by kernel_rfl) Try.func5 (by kernel_rfl)
    (of_decide_eq_true (by kernel_rfl)) (by unfold Func.isWrapper; first | (rw [if_pos (by decide +kernel)]; kernel_rfl) | (rw [if_neg (by decide +kernel)]; exact ⟨rfl, rfl⟩))
    (fun os started H enc _ => recLifted os started H enc)

/-- THE STATEMENT -/
theorem putRecordsProved : Rows.FnPutRecordsTheLockAndKeepsUntoldCompleteSaid := recOver

end Go.Proofs.Qxb6605402a
