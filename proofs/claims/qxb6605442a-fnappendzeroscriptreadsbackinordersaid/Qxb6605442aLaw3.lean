import Derived.Test.Qxb6605442aAz
namespace Go.Proofs.Qxb6605442a
open Go.RowKit
set_option linter.unusedVariables false
set_option linter.unusedSimpArgs false

theorem BtAt.grown {k : IntKind} {w w' : World} {a : Option Addr} {n : Nat} {f : Nat → Int} {row : Option Nat} (h : BtAt k w a n f) (hg : w.grownBy w' row) (hne : ∀ b o, a = some ⟨b, o, none⟩ → some b ≠ row) : BtAt k w' a n f := fun i hi => by
  obtain ⟨b, o, e, hlt, hk⟩ := h i hi
  refine ⟨b, o, e, Nat.lt_of_lt_of_le hlt hg.size, ?_⟩
  rw [World.cell?_of_block (w := w) (hg.block b hlt (hne b o e))]
  exact hk
theorem blk_ge {w : World} {base : Nat} {ao : Option Addr} {n cap : Nat} {xs : List Value} (h : w.ownsRow base 5 1 (.slice ao n cap) n xs) {b o : Nat} (e : ao = some ⟨b, o, none⟩) : base ≤ b := by
  subst e
  exact (own_blk h rfl).1
theorem ownsRow.mono {w : World} {base base' : Nat} {v : Value} {n : Nat} {xs : List Value} (h : w.ownsRow base 5 1 v n xs) (hb : base' ≤ base) : w.ownsRow base' 5 1 v n xs :=
  ⟨h.1, by
    rcases h.2 with h0 | ⟨g, c, cur, e, h1, h2⟩
    · exact .inl h0
    · exact .inr ⟨g, c, cur, e, Nat.le_trans hb h1, h2⟩⟩
theorem own_below {w w' : World} {base : Nat} {ao : Option Addr} {n cap : Nat} {xs : List Value} (h : w.ownsRow base 5 1 (.slice ao n cap) n xs) (hb : Below w.heap.size w w') : w'.ownsRow base 5 1 (.slice ao n cap) n xs := by
  refine ⟨h.1, ?_⟩
  rcases h.2 with h0 | ⟨g, c, cur, e, h1, h2, h3⟩
  · exact .inl h0
  · exact .inr ⟨g, c, cur, e, h1, (hb.block g (Array.getElem?_eq_some_iff.1 h2).1).trans h2, h3⟩

theorem ext_at (f : Nat → Int) (n : Nat) (l : List Int) (j : Nat) : ext f n l (n + j) = l.getD j 0 := by
  unfold ext; rw [if_neg (by omega), Nat.add_sub_cancel_left]
/-- Behind the append: the old code still reads, and nothing of the caller's has turned. -/
theorem after3 {W w1 w2 w3 : World} {a1 a2 : Option Addr} {n cap1 cap2 : Nat} {xs ys : List Value} {k : IntKind} {f : Nat → Int}
    (h1 : w1.ownsRow W.heap.size 5 1 (.slice a1 n cap1) n xs) (b1 : Below W.heap.size W w1) (h2 : w2.ownsRow w1.heap.size 5 1 (.slice a2 n cap2) n ys) (b2 : Below w1.heap.size w1 w2)
    (hL : BtAt k w2 a2 n f) (hg : w2.grownBy w3 (Value.slice a1 n cap1).ownBlock) : BtAt k w3 a2 n f ∧ Below W.heap.size W w3 := by
  constructor
  · refine hL.grown hg fun b o e eq => ?_
    have := blk_ge h2 e
    have := (own_blk h1 eq.symm).2
    omega
  · refine (b1.trans (b2.mono b1.size)).grown hg (Nat.le_trans b1.size b2.size) fun k' e => (own_blk h1 e).1

set_option maxHeartbeats 1000000 in
set_option maxRecDepth 100000 in
theorem law3 (a : Option Addr) (n cap : Nat) (f : Nat → Int) (vt : Int) (w : World) (hn63 : n ≤ 9223372036854775807) (hL : BtAt .u8 w a n f)
    (R : Ending → World → Prop) (hR : ∀ w', Below w.heap.size w w' → R (.returned (.bool true)) w') :
    Calls Try.prog 3 #[.slice a n cap, .int .u8 vt] w R := by
  by_cases hn : n ≤ 1048576
  · have HL := hide hL
    clear hL
    have hp := pat_pos vt
    have A8 := az8 vt
    have A10 := rz10 vt
    have A11 := zeroType11 vt
    revert hp A8 A10 A11
    generalize zt vt = z
    generalize pat vt = l
    intro hp A8 A10 A11
    obtain ⟨m, em⟩ : ∃ m, l.length = m := ⟨_, rfl⟩
    rw [em] at hp A8 A10
    replace A8 := hide A8
    replace A10 := hide A10
    replace A11 := hide A11
    replace em := hide em
    obtain ⟨hp1, hp2⟩ := hp
    have HX : Hid (∀ j, j < m → ext f n l (n + j) = l.getD j 0) := fun j hj => ext_at f n l j
    go_enter Try.func3, Try.ntmps3
    go_wp2_with (first
      | (go_at_call 6; refine bytes6 a n cap vt w _ hn ?_)
      | (go_at_call 7; refine clone7 a1 n cap1 f w1 hn (BtAt.of_own (unhide H1).1) _ (fun a2 cap2 w2 h2 b2 => ?_); have H2 := hide (And.intro h2 b2); clear h2 b2)
      | (go_at_call 7; refine clone7 a n cap f w hn (unhide HL) _ (fun a1 cap1 w1 h1 b1 => ?_); have H1 := hide (And.intro h1 b1); clear h1 b1)
      | (go_at_call 8; refine unhide A8 w.heap.size a1 n cap1 f w2 (by omega) (own_below (unhide H1).1 (unhide H2).2) (Nat.le_trans (unhide H1).2.size (unhide H2).2.size) _ (fun g cap3 w3 h3 b3 => ?_); have H3 := hide (And.intro h3 b3); clear h3 b3)
      | (go_at_call 9; refine prefix9 _ a2 _ n _ cap2 (ext f n l) f w3 (by omega) (by omega) (BtAt.of_own (unhide H3).1) (after3 (unhide H1).1 (unhide H1).2 (unhide H2).1 (unhide H2).2 (BtAt.of_own (unhide H2).1) (unhide H3).2).1 (fun j hj => if_pos hj) _ (fun w4 b4 => ?_); have H4 := hide b4; clear b4)
      | (go_at_call 10; refine unhide A10 _ _ _ n (ext f n l) w4 (by omega) ((BtAt.of_own (unhide H3).1).below (unhide H4)) (Nat.le_refl _) (unhide HX) _ ?_)
      | (go_at_call 11; refine unhide A11 w4 _ ?_))
    have q := (after3 (unhide H1).1 (unhide H1).2 (unhide H2).1 (unhide H2).2 (BtAt.of_own (unhide H2).1) (unhide H3).2).2
    exact q.trans ((unhide H4).mono q.size)
  · have hn' : ¬ n ≤ 1048576 := hn
    clear hL
    go_enter Try.func3, Try.ntmps3
    go_wp2_with (go_at_call 6; refine bytes6' a n cap vt w _ hn63 hn' ?_)
    exact Below.refl _ _

end Go.Proofs.Qxb6605442a
