import Derived.Test.Qxb6605402aQ
import Derived.Test.Qxb6605402aPutTell
namespace Go.Proofs.Qxb6605402a
open Go.RowKit Go.Maps
set_option linter.unusedVariables false
set_option linter.unusedSimpArgs false

/-- the number of the first region of a code -/
def firstR : Code → Option Nat
  | .region k _ _ => some k
  | .seq a _ => firstR a
  | .loop c => firstR c
  | .block _ c => firstR c
  | .scope c => firstR c
  | _ => none
/-- a body's statements from region n on -/
def fromR (n : Nat) : Code → Option Code
  | .seq a b => match firstR a with
    | some k => if Nat.beq k n then some (.seq a b) else fromR n b
    | none => fromR n b
  | .scope c => fromR n c
  | _ => none

theorem listed_eq5 {f b : Bool} {u q : Nat} {T : Nat → Nat} (hf : f = true ↔ ∃ j, j < u ∧ T j = q) (h1 : b = true → ∃ k : Nat, k < u ∧ (T k : Int) = (q : Int)) (h2 : b = false → ∀ k : Nat, k < u → (T k : Int) ≠ (q : Int)) : b = f := by
  cases b with
  | false =>
    cases f with
    | false => rfl
    | true =>
      obtain ⟨j, hj, e⟩ := hf.1 rfl
      exact (h2 rfl j hj (by omega)).elim
  | true =>
    obtain ⟨k, hk, e⟩ := h1 rfl
    exact (hf.2 ⟨k, hk, by omega⟩).symm

/-- the set behind 'put', in every case: sl: the place in the array or -1; oat: the place among the others or -1 -/
structure Q5 (S S' : LD) (r : ByteArray) (hd : Hold) (sl oat : Int) (isO ex wl : Bool) : Prop where
  ws : WS S'
  eI : ∀ i : Nat, i < 4 → (i : Int) ≠ sl → S'.I i = S.I i
  eO : ∀ q : Nat, q < S.m → (q : Int) ≠ oat → S'.O q = S.O q ∧ S'.F q = S.F q
  hm : S.m ≤ S'.m
  eu : S'.u = S.u + (if ex = true then 1 else 0)
  eR : ∀ j, j < S.u → (S'.O (S'.T j)).res = (S.O (S.T j)).res
  tR : ex = true → (S'.O (S'.T S.u)).res = r
  exd : ex = (isO && hd.loc && !hd.tol && !wl)
  fl : isO = true → ∃ q, q < S'.m ∧ (S'.O q).res = r ∧ S'.F q = (ex || wl)
  od : (oat = -1 ∧ wl = false) ∨ ∃ q : Nat, oat = q ∧ q < S.m ∧ wl = S.F q

theorem Q5.of_qi {S S' : LD} {r : ByteArray} {hd : Hold} {k N1 : Nat} (h : QI S S' r hd k N1) : Q5 S S' r hd k (-1) false false false where
  ws := h.ws
  eI i hi hne := h.eI i (fun e => hne (by omega))
  eO q hq _ := ⟨by rw [h.eO], by rw [h.eF]⟩
  hm := by rw [h.em]; exact Nat.le_refl _
  eu := by rw [h.eu]; rfl
  eR j hj := by rw [h.eO, h.eT]
  tR e := by cases e
  exd := rfl
  fl e := by cases e
  od := .inl ⟨rfl, rfl⟩
theorem Q5.of_qo {S S' : LD} {r : ByteArray} {hd : Hold} {i m1 pb : Nat} {f0 : Bool} (hT : ∀ j, j < S.u → S.T j < S.m) (h : QO S S' r hd i m1 pb f0) {oat : Int} (ho : (oat = -1 ∧ f0 = false ∧ S.m ≤ i) ∨ (oat = i ∧ i < S.m ∧ f0 = S.F i)) : Q5 S S' r hd (-1) oat true (hd.loc && !hd.tol && !f0) f0 where
  ws := h.ws
  eI i' hi hne := by rw [h.eI]
  eO q hq hne := h.eO q hq (fun e => by rcases ho with ⟨_, _, h'⟩ | ⟨h', _, _⟩ <;> omega)
  hm := by rw [h.em]; exact h.hm
  eu := h.eu
  eR j hj := by rw [h.eT j hj]; exact h.oR _ (hT j hj)
  tR e := by rw [h.tT e, h.oI]
  exd := by rw [Bool.true_and]
  fl _ := ⟨i, by rw [h.em]; exact h.hi, by rw [h.oI], by rw [h.eF]; cases hd.loc <;> cases hd.tol <;> cases f0 <;> rfl⟩
  od := by
    rcases ho with ⟨h1, h2, _⟩ | ⟨h1, h2, h3⟩
    · exact .inl ⟨h1, h2⟩
    · exact .inr ⟨i, h1, h2, h3⟩

theorem of25N {w : World} {base s : Nat} {S : LD} (h : LS w base s S) {r : ByteArray} (hI : NoI S r) (hO : NoO S r) (hr : r.size ≤ maxLen) (R : Ending → World → Prop) (hR : ∀ n, R (.returned (.pointer none)) (w.drewN n)) :
    Calls Try.prog 25 #[.pointer (some ⟨s, 0, none⟩), .string r] w R :=
  zzof25 w base s S h r hr R (fun n k hk => (hI k hk.1 hk.2.1).elim) (fun n i _ hi e => (hO i hi e).elim) (fun n _ _ => hR n)

end Go.Proofs.Qxb6605402a
