import Derived.Test.Qxb6605402aAcc2
namespace Go.Proofs.Qxb6605402a
open Go.RowKit Go.Maps
set_option linter.unusedVariables false
set_option linter.unusedSimpArgs false
variable {w : World} {base s : Nat} {S : LD}

set_option maxHeartbeats 1000000 in
/-- ZZInPlace -/
theorem zzip19 (l : Lk) (k : Nat) (hk : k < 4) (h : LkAt w s (k * 9) l) (R : Ending → World → Prop) (hR : ∀ w', Below w.heap.size w w' → R (.returned (.agg #[.string l.res, .string l.hd.mode, .int .u64 l.hd.ver, .bool l.hd.cdr, .bool l.hd.loc, .bool l.hd.tol, .bool l.hd.wri, .int .u64 l.hd.tok, .int .u64 l.hd.sqn])) w') :
    Calls Try.prog 19 #[.pointer (some ⟨s, 0, none⟩), .int .i64 (k : Int)] w R := by
  have hlt : s < w.heap.size := block_lt_of_cell h.c0
  have c0 := h.c0
  have hh := h.hd
  have hk' : (k : Int) < 4 := by omega
  clear h
  go_enter Try.func19, Try.ntmps19
  go_wp2
  go_region_with (go_at_call 37; refine zzout37 l.hd s (k * 9 + 1) _ (hh.below (((Below.refl _ _).alloc (Nat.le_refl _) _).drew) hlt) _ (fun w1 hb1 => ?_); obtain ⟨hc, hf⟩ := bcell hb1; have HB := hide hb1; clear hb1)
  all_goals
    go_wp2
    exact bodyPost_ret (v := .agg #[.string l.res, .string l.hd.mode, .int .u64 l.hd.ver, .bool l.hd.cdr, .bool l.hd.loc, .bool l.hd.tol, .bool l.hd.wri, .int .u64 l.hd.tok, .int .u64 l.hd.sqn]) (by simp [results, Try.results19, go_sem, hc, hf]) rfl (hR _ (Below.setCells' w.heap.size (Nat.le_refl _) l.cells 0 _ (boxBd (unhide HB))))

end Go.Proofs.Qxb6605402a
