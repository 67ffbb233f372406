import Derived.Test.Qxb6605402aZPut2
namespace Go.Proofs.Qxb6605402a
open Go.RowKit Go.Maps
set_option linter.unusedVariables false
set_option linter.unusedSimpArgs false

/-- the set behind 'put', the lock in place -/
structure QI (S S' : LD) (r : ByteArray) (hd : Hold) (k N1 : Nat) : Prop where
  ws : WS S'
  kI : S'.I k = ⟨r, hd⟩
  hk : k < N1
  h4 : k < 4
  eN : S'.N = N1
  eI : ∀ i, i ≠ k → S'.I i = S.I i
  em : S'.m = S.m
  eO : S'.O = S.O
  eF : S'.F = S.F
  eu : S'.u = S.u
  eT : S'.T = S.T
theorem QI.mk' {S : LD} {r : ByteArray} {hd : Hold} {k N1 : Nat} (hk : k < N1) (h4 : k < 4) (ws : WS (S.setS N1 (updI S.I k ⟨r, hd⟩))) : QI S (S.setS N1 (updI S.I k ⟨r, hd⟩)) r hd k N1 :=
  ⟨ws, updI_same _ _ _, hk, h4, rfl, fun i hi => updI_other _ _ hi, rfl, rfl, rfl, rfl, rfl⟩
/-- the set behind 'put', the lock among the others -/
structure QO (S S' : LD) (r : ByteArray) (hd : Hold) (i m1 pb : Nat) (f0 : Bool) : Prop where
  ws : WS S'
  eI : S'.I = S.I
  eN : S'.N = S.N
  em : S'.m = m1
  hi : i < m1
  hm : S.m ≤ m1
  oI : S'.O i = ⟨r, hd⟩
  oB : S'.B i = pb
  eO : ∀ q, q < S.m → q ≠ i → S'.O q = S.O q ∧ S'.F q = S.F q
  oR : ∀ q, q < S.m → (S'.O q).res = (S.O q).res
  eF : S'.F i = ((hd.loc && !hd.tol) || f0)
  eu : S'.u = S.u + (if (hd.loc && !hd.tol && !f0) = true then 1 else 0)
  eT : ∀ j, j < S.u → S'.T j = S.T j
  tT : (hd.loc && !hd.tol && !f0) = true → S'.T S.u = i

theorem QO.of_putO {S0 : LD} {r : ByteArray} {hd : Hold} {i : Nat} {uv : Value} (hi : i < S0.m) (hr : (S0.O i).res = r) (ws : WS (S0.putO i hd uv)) : QO S0 (S0.putO i hd uv) r hd i S0.m (S0.B i) (S0.F i) := by
  obtain ⟨eI, eN, em⟩ := S0.putO_I i hd uv
  have eO := S0.putO_O i hd uv
  rw [hr] at eO
  have eB : (S0.putO i hd uv).B = S0.B := by unfold LD.putO; split <;> rfl
  refine ⟨ws, eI, eN, em, hi, Nat.le_refl _, by rw [eO, updI_same], by rw [eB], fun q hq hne => ⟨by rw [eO, updI_other _ _ hne], ?_⟩, fun q hq => by rw [eO]; exact updI_res hr hd q, ?_, ?_, ?_, ?_⟩
  · unfold LD.putO
    split
    · show (if q = i then true else S0.F q) = S0.F q
      rw [if_neg hne]
    · show (if q = i then S0.F i else S0.F q) = S0.F q
      rw [if_neg hne]
  · unfold LD.putO
    split
    · rename_i h
      show (if i = i then true else S0.F i) = _
      rw [if_pos rfl]
      simp only [Bool.and_eq_true] at h
      rw [show (hd.loc && !hd.tol) = true by simp only [Bool.and_eq_true]; exact h.1]
      rfl
    · rename_i h
      show (if i = i then S0.F i else S0.F i) = _
      rw [if_pos rfl]
      revert h
      cases hd.loc <;> cases hd.tol <;> cases S0.F i <;> simp
  · unfold LD.putO
    split <;> rfl
  · intro j hj
    unfold LD.putO
    split
    · show (if j = S0.u then i else S0.T j) = S0.T j
      rw [if_neg (by omega)]
    · rfl
  · intro h
    unfold LD.putO
    rw [if_pos h]
    show (if S0.u = S0.u then i else S0.T S0.u) = i
    rw [if_pos rfl]
theorem QO.of_new {S : LD} {r : ByteArray} {hd : Hold} {l : Lk} {b mb : Nat} {uv : Value} (hr : l.res = r) (ws : WS ((S.addO l b mb).putO S.m hd uv)) : QO S ((S.addO l b mb).putO S.m hd uv) r hd S.m (S.m + 1) b false := by
  have q := QO.of_putO (S0 := S.addO l b mb) (i := S.m) (hd := hd) (uv := uv) (r := r) (Nat.lt_succ_self _) (by rw [S.addO_O']; exact hr) ws
  rw [S.addO_B', S.addO_F'] at q
  exact { q with
    hm := Nat.le_succ _
    eI := q.eI
    eN := q.eN
    em := q.em
    hi := q.hi
    eO := fun x hx hne => by
      obtain ⟨h1, h2⟩ := q.eO x (Nat.lt_succ_of_lt hx) hne
      exact ⟨h1.trans (S.addO_O _ _ _ hx), h2.trans (S.addO_F _ _ _ hx)⟩
    oR := fun x hx => (q.oR x (Nat.lt_succ_of_lt hx)).trans (by rw [S.addO_O _ _ _ hx]) }

/-- names in the untold list differ -/
theorem WS.ne {S : LD} (ws : WS S) {i j : Nat} (h : i < j) (hj : j < S.u) : (S.O (S.T i)).res ≠ (S.O (S.T j)).res := by
  have h1 := ws.1.rng i (by omega)
  have h2 := ws.1.rng j hj
  have hne : S.T i ≠ S.T j := fun e => ws.1.uu i j h hj (by simp only [e])
  rcases Nat.lt_trichotomy (S.T i) (S.T j) with h' | h' | h'
  · exact ws.1.oo _ _ h' (by omega)
  · exact (hne h').elim
  · exact fun e => ws.1.oo _ _ h' (by omega) e.symm

end Go.Proofs.Qxb6605402a
