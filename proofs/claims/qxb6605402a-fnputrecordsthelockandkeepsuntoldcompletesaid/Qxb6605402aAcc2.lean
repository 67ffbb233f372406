import Derived.Test.Qxb6605402aAcc
namespace Go.Proofs.Qxb6605402a
open Go.RowKit Go.Maps
set_option linter.unusedVariables false
set_option linter.unusedSimpArgs false
variable {w : World} {base s : Nat} {S : LD}

set_option maxHeartbeats 400000 in
/-- ZZRead -/
theorem zzread21 (h : Hold) (b o : Nat) (w : World) (hh : HdAt w b o h) (R : Ending → World → Prop) (hR : ∀ w', Below w.heap.size w w' → R (.returned (.agg #[.string h.mode, .int .u64 h.ver, .bool h.cdr, .bool h.loc, .bool h.tol, .bool h.wri, .int .u64 h.tok, .int .u64 h.sqn])) w') :
    Calls Try.prog 21 #[.pointer (some ⟨b, o, none⟩)] w R := by
  have hlt : b < w.heap.size := block_lt_of_cell hh.c0
  go_enter Try.func21, Try.ntmps21
  go_wp2_with (go_at_call 37; refine zzout37 h b o _ (hh.below ((Below.refl _ _).alloc (Nat.le_refl _) _) hlt) _ (fun w1 hb1 => ?_); obtain ⟨hc, hf⟩ := bcell hb1; have HB := hide hb1; clear hb1)
  have hb1 := unhide HB
  exact bodyPost_ret (v := .agg #[.string h.mode, .int .u64 h.ver, .bool h.cdr, .bool h.loc, .bool h.tol, .bool h.wri, .int .u64 h.tok, .int .u64 h.sqn]) (by simp [results, Try.results21, go_sem, hc, hf]) rfl (hR _ (Below.setCells' w.heap.size (Nat.le_refl _) h.cells 0 _ (boxB hb1)))

set_option maxHeartbeats 400000 in
/-- zzTo -/
theorem zzto34 (l : Lk) (w : World) (R : Ending → World → Prop) (hR : ∀ w', Below w.heap.size w w' → R (.returned (.agg #[.string l.res, .string l.hd.mode, .int .u64 l.hd.ver, .bool l.hd.cdr, .bool l.hd.loc, .bool l.hd.tol, .bool l.hd.wri, .int .u64 l.hd.tok, .int .u64 l.hd.sqn])) w') :
    Calls Try.prog 34 #[.agg #[.string l.res, .string l.hd.mode, .int .u64 l.hd.ver, .bool l.hd.cdr, .bool l.hd.loc, .bool l.hd.tol, .bool l.hd.wri, .int .u64 l.hd.tok, .int .u64 l.hd.sqn]] w R := by
  go_enter Try.func34, Try.ntmps34
  go_wp2
  exact bodyPost_ret (v := .agg #[.string l.res, .string l.hd.mode, .int .u64 l.hd.ver, .bool l.hd.cdr, .bool l.hd.loc, .bool l.hd.tol, .bool l.hd.wri, .int .u64 l.hd.tok, .int .u64 l.hd.sqn]) (by simp [results, Try.results34, go_sem]) rfl (hR _ (((Below.refl _ _).alloc (Nat.le_refl _) _).alloc (by simp) _))

set_option maxHeartbeats 400000 in
/-- zzFrom -/
theorem zzfrom18 (l : Lk) (w : World) (R : Ending → World → Prop) (hR : ∀ w', Below w.heap.size w w' → R (.returned (.agg #[.string l.res, .string l.hd.mode, .int .u64 l.hd.ver, .bool l.hd.cdr, .bool l.hd.loc, .bool l.hd.tol, .bool l.hd.wri, .int .u64 l.hd.tok, .int .u64 l.hd.sqn])) w') :
    Calls Try.prog 18 #[.agg #[.string l.res, .string l.hd.mode, .int .u64 l.hd.ver, .bool l.hd.cdr, .bool l.hd.loc, .bool l.hd.tol, .bool l.hd.wri, .int .u64 l.hd.tok, .int .u64 l.hd.sqn]] w R := by
  go_enter Try.func18, Try.ntmps18
  go_wp2
  exact bodyPost_ret (v := .agg #[.string l.res, .string l.hd.mode, .int .u64 l.hd.ver, .bool l.hd.cdr, .bool l.hd.loc, .bool l.hd.tol, .bool l.hd.wri, .int .u64 l.hd.tok, .int .u64 l.hd.sqn]) (by simp [results, Try.results18, go_sem]) rfl (hR _ (((Below.refl _ _).alloc (Nat.le_refl _) _).alloc (by simp) _))

set_option maxHeartbeats 400000 in
/-- ZZOtherCell, held -/
theorem zzoc20 (h : LS w base s S) {i : Nat} (hi : i < S.m) (R : Ending → World → Prop) (hR : R (.returned (.pointer (some ⟨S.B i, 0, none⟩))) w) :
    Calls Try.prog 20 #[.pointer (some ⟨s, 0, none⟩), .string (S.O i).res] w R := by
  have c := h.cm
  have hl := h.hit hi
  go_enter Try.func20, Try.ntmps20
  go_wp2
  exact hR

set_option maxHeartbeats 400000 in
/-- ZZOtherUntold, held -/
theorem zzou22 (h : LS w base s S) {i : Nat} (hi : i < S.m) (R : Ending → World → Prop) (hR : R (.returned (.bool (S.F i))) w) :
    Calls Try.prog 22 #[.pointer (some ⟨s, 0, none⟩), .string (S.O i).res] w R := by
  have c := h.cm
  have hl := h.hit hi
  have hf := h.ofl i hi
  go_enter Try.func22, Try.ntmps22
  go_wp2
  exact hR

end Go.Proofs.Qxb6605402a
