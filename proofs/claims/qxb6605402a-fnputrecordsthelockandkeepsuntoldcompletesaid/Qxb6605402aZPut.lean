import Derived.Test.Qxb6605402aPlp
namespace Go.Proofs.Qxb6605402a
open Go.RowKit Go.Maps
set_option linter.unusedVariables false
set_option linter.unusedSimpArgs false

set_option maxHeartbeats 1000000 in
/-- ZZPut -/
theorem zzput31 (w : World) (base s : Nat) (S : LD) (h : LS w base s S) (hb0 : base ≤ w.heap.size) (hu8 : S.u < 8192) (hm8 : S.m < 8192) (ws : WS S) (r : ByteArray) (hr : r.size ≤ maxLen) (hd : Hold) (R : Ending → World → Prop)
    (hR : ∀ w' S' v, LS w' base s S' → PR S' S.I S.N S.O S.m S.u r hd → Below base w w' → R (.returned (.pointer v)) w') :
    Calls Try.prog 31 #[.pointer (some ⟨s, 0, none⟩), .string r, .agg #[.string hd.mode, .int .u64 hd.ver, .bool hd.cdr, .bool hd.loc, .bool hd.tol, .bool hd.wri, .int .u64 hd.tok, .int .u64 hd.sqn]] w R := by
  have HH := hide h
  have HW := hide ws
  clear h ws
  go_enter Try.func31, Try.ntmps31
  go_wp2_with (first
    | (go_at_call 40; refine zzin40 hd _ _ (fun w1 hb1 => ?_); have B1 := hide (show LS w1 base s S ∧ Below base w w1 from ⟨(HH.out.alloc _).below hb1, ((Below.refl base w).alloc hb0 _).trans (hb1.mono (by simp; omega))⟩); have hz1 : base ≤ w1.heap.size := (by have := hb1.size; simp at this; omega); clear hb1)
    | (go_at_call 41; refine put41 w1 base s S B1.out.1 hz1 hu8 hm8 (fun k i hk hi => HW.out.1.io k i (by omega) hi) r hr hd _ (fun w2 k N1 p hl hb => ?_) (fun w2 i S0 uv p hl hb => ?_)))
  · exact hR w2 _ _ hl (PR.ip HW.out (by have := hl.hN; exact this) p hd) (B1.out.2.trans hb)
  · exact hR w2 _ _ hl (PR.ot HW.out p hd uv) (B1.out.2.trans hb)

/-- ZZOf behind 'tell' -/
theorem ofTold {w : World} {base s : Nat} {S S1 : LD} {I L : Nat → Lk} {N n u : Nat} {r : ByteArray} {hd : Hold} (p : PR S I N L n u r hd) (t : Told S1 S.N S.m S.I S.O) (h : LS w base s S1) (hr : r.size ≤ maxLen) (R : Ending → World → Prop)
    (hR : ∀ x b o, HdAt (w.drewN x) b o (tld hd) → b < w.heap.size → R (.returned (.pointer (some ⟨b, o, none⟩))) (w.drewN x)) :
    Calls Try.prog 25 #[.pointer (some ⟨s, 0, none⟩), .string r] w R := by
  have eI : ∀ k, k < S1.N → S1.I k = tldL (S.I k) := fun k hk => by rw [t.eI, if_pos (by rw [← t.eN]; exact hk)]
  have eO : ∀ k, k < S1.m → S1.O k = tldL (S.O k) := fun k hk => t.eO k (by rw [← t.em]; exact hk)
  refine zzof25 w base s S1 h r hr R (fun x k hk => ?_) (fun x i hn hi he => ?_) (fun x hn ho => ?_)
  · refine hR x s (k * 9 + 1) ?_ h.lt
    have h4 : k < 4 := Nat.lt_of_lt_of_le hk.1 h.hN
    have hl := (h.below (Below_drewN (Below.refl _ _) x)).ip k h4
    have e1 := eI k hk.1
    have e2 : (S.I k).hd = hd := p.atI k (by rw [← t.eN]; exact hk.1) (by have := hk.2.1; rw [e1] at this; exact this)
    rw [e1, show tldL (S.I k) = ⟨(S.I k).res, tld hd⟩ by rw [← e2]; rfl] at hl
    exact ⟨hl.c1, hl.c2, hl.c3, hl.c4, hl.c5, hl.c6, hl.c7, hl.c8⟩
  · refine hR x (S1.B i) 0 ?_ (h.ltb hi)
    have hl := (h.below (Below_drewN (Below.refl _ _) x)).ohd i hi
    have e1 := eO i hi
    have e2 : (S.O i).hd = hd := p.atO i (by rw [← t.em]; exact hi) (by rw [e1] at he; exact he)
    rw [e1, show (tldL (S.O i)).hd = tld hd by rw [← e2]; rfl] at hl
    exact hl
  · exfalso
    rcases p.ex with ⟨k, hk, e⟩ | ⟨k, hk, e⟩
    · exact hn k (by rw [t.eN]; exact hk) (by rw [eI k (by rw [t.eN]; exact hk)]; exact e)
    · exact ho k (by rw [t.em]; exact hk) (by rw [eO k (by rw [t.em]; exact hk)]; exact e)

end Go.Proofs.Qxb6605402a
