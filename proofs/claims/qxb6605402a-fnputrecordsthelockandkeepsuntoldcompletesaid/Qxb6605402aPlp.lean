import Derived.Test.Qxb6605402aPut
import Derived.Test.Qxb6605402aLaw1
namespace Go.Proofs.Qxb6605402a
open Go.RowKit Go.Maps
set_option linter.unusedVariables false
set_option linter.unusedSimpArgs false

/-- due locks of other resources -/
def ctr (r : ByteArray) (X : Nat → Lk) : Nat → Nat
  | 0 => 0
  | k + 1 => ctr r X k + (due1 (X k)).length * (if (X k).res = r then 0 else 1)
theorem due1_len (l : Lk) : (due1 l).length ≤ 1 := by unfold due1; split <;> simp
theorem ctr_le (r : ByteArray) (X : Nat → Lk) : ∀ k, ctr r X k ≤ k
  | 0 => Nat.le_refl _
  | k + 1 => by
    have h1 := ctr_le r X k
    have h2 := due1_len (X k)
    simp only [ctr]
    split <;> omega
theorem ctr_none {r : ByteArray} {X : Nat → Lk} : ∀ k, (∀ j, j < k → (X j).res ≠ r) → ctr r X k = (rep X k).length
  | 0, _ => rfl
  | k + 1, h => by
    rw [rep_succ, List.length_append, ctr, ctr_none k (fun j hj => h j (by omega)), if_neg (h k (by omega)), Nat.mul_one]
theorem ctr_same {r : ByteArray} {X : Nat → Lk} {k : Nat} (h : (X k).res = r) : ctr r X (k + 1) = ctr r X k := by simp [ctr, h]
theorem ctr_not {r : ByteArray} {X : Nat → Lk} {k : Nat} (h : due (X k) = false) : ctr r X (k + 1) = ctr r X k := by simp [ctr, due1, h]
theorem ctr_due {r : ByteArray} {X : Nat → Lk} {k : Nat} (h : due (X k) = true) (hr : (X k).res ≠ r) : ctr r X (k + 1) = ctr r X k + 1 := by simp [ctr, due1, h, hr]
theorem rep_upd (r : ByteArray) (X : Nat → Lk) (k : Nat) (l : Lk) : ∀ n, (∀ j, j < n → j ≠ k → (X j).res ≠ r) → (k < n → (X k).res = r) → (rep (updI X k l) n).length = ctr r X n + (if k < n then (due1 l).length else 0)
  | 0, _, _ => rfl
  | n + 1, h1, h2 => by
    rw [rep_succ, List.length_append, rep_upd r X k l n (fun j hj => h1 j (by omega)) (fun h => h2 (by omega)), ctr]
    by_cases e : n = k
    · subst e
      rw [updI_same, if_neg (show ¬ n < n by omega), if_pos (h2 (by omega)), if_pos (show n < n + 1 by omega)]
      omega
    · rw [updI_other _ _ e, if_neg (h1 n (by omega) e)]
      by_cases hk : k < n
      · rw [if_pos hk, if_pos (by omega)]; omega
      · rw [if_neg hk, if_neg (by omega)]; omega
theorem rep_new (r : ByteArray) (X : Nat → Lk) (l : Lk) (n : Nat) (h : ∀ j, j < n → (X j).res ≠ r) : (rep (updI X n l) (n + 1)).length = ctr r X n + (due1 l).length := by
  rw [rep_succ, List.length_append, rep_upd r X n l n (fun j hj _ => h j hj) (fun hh => by omega), updI_same, if_neg (by omega), Nat.add_zero]

/-- what a well formed set is, said of the record -/
def WS (S : LD) : Prop := WF S.I S.N S.O S.m (fun j => (S.T j : Int)) S.u ∧ ∀ i, i < S.m → (S.F i = true ↔ ∃ j, j < S.u ∧ S.T j = i)

theorem LD.putO_O (S : LD) (i : Nat) (hd : Hold) (uv : Value) : (S.putO i hd uv).O = updI S.O i ⟨(S.O i).res, hd⟩ := by
  unfold LD.putO
  split <;> rfl
theorem LD.putO_I (S : LD) (i : Nat) (hd : Hold) (uv : Value) : (S.putO i hd uv).I = S.I ∧ (S.putO i hd uv).N = S.N ∧ (S.putO i hd uv).m = S.m := by
  unfold LD.putO
  split <;> exact ⟨rfl, rfl, rfl⟩
theorem LD.putO_u (S : LD) (i : Nat) (hd : Hold) (uv : Value) : (S.putO i hd uv).u ≤ S.u + 1 := by
  unfold LD.putO
  split
  · exact Nat.le_refl _
  · exact Nat.le_succ _

theorem WS.ip {S : LD} (h : WS S) {r : ByteArray} {k N1 : Nat} (hN : N1 ≤ 4) (p : PlI S r k N1) (hd : Hold) : WS (S.setS N1 (updI S.I k ⟨r, hd⟩)) := by
  obtain ⟨wf, hF⟩ := h
  refine ⟨⟨by show (0:Int) ≤ (N1 : Int); omega, by show (N1 : Int) ≤ 4; omega, ?_, ?_, wf.oo, wf.rng, wf.uu, wf.all⟩, hF⟩
  · intro i j hij hj
    show (updI S.I k ⟨r, hd⟩ i).res ≠ (updI S.I k ⟨r, hd⟩ j).res
    replace hj : (j : Int) < N1 := hj
    rcases p with ⟨⟨hk, hr, _⟩, rfl⟩ | ⟨rfl, rfl, _, hno, _⟩
    · have e : ∀ x, (updI S.I k ⟨r, hd⟩ x).res = (S.I x).res := fun x => by
        by_cases e : x = k
        · subst e; rw [updI_same, hr]
        · rw [updI_other _ _ e]
      rw [e, e]; exact wf.ii i j hij hj
    · rw [updI_other _ _ (show i ≠ S.N by omega)]
      by_cases e : j = S.N
      · rw [e, updI_same]; exact hno i (by omega)
      · rw [updI_other _ _ e]; exact wf.ii i j hij (by omega)
  · intro i j hi hj
    show (updI S.I k ⟨r, hd⟩ i).res ≠ (S.O j).res
    replace hi : (i : Int) < N1 := hi
    rcases p with ⟨⟨hk, hr, _⟩, rfl⟩ | ⟨rfl, rfl, _, hno, hnoO⟩
    · by_cases e : i = k
      · subst e; rw [updI_same]
        exact fun e => wf.io i j hi hj (hr.trans e)
      · rw [updI_other _ _ e]; exact wf.io i j hi hj
    · by_cases e : i = S.N
      · rw [e, updI_same]; exact fun e => hnoO j hj e.symm
      · rw [updI_other _ _ e]; exact wf.io i j (by omega) hj
theorem WS.addO {S : LD} (h : WS S) {l : Lk} (b mb : Nat) (hI : NoI S l.res) (hO : NoO S l.res) (hdue : due l = false) : WS (S.addO l b mb) := by
  obtain ⟨wf, hF⟩ := h
  refine ⟨⟨wf.lo, wf.hi, wf.ii, ?_, ?_, ?_, wf.uu, ?_⟩, ?_⟩
  · intro i j hi hj
    replace hj : j < S.m + 1 := hj
    by_cases e : j = S.m
    · subst e; rw [S.addO_O']; exact hI i (by replace hi : (i : Int) < S.N := hi; omega)
    · rw [S.addO_O _ _ _ (by omega)]; exact wf.io i j hi (by omega)
  · intro i j hij hj
    replace hj : j < S.m + 1 := hj
    rw [S.addO_O _ _ _ (show i < S.m by omega)]
    by_cases e : j = S.m
    · subst e; rw [S.addO_O']; exact hO i (by omega)
    · rw [S.addO_O _ _ _ (by omega)]; exact wf.oo i j hij (by omega)
  · intro k hk
    have := wf.rng k hk
    show 0 ≤ ((S.T k : Nat) : Int) ∧ ((S.T k : Nat) : Int) < ((S.m + 1 : Nat) : Int)
    omega
  · intro i hi h1 h2
    replace hi : i < S.m + 1 := hi
    by_cases e : i = S.m
    · subst e
      rw [S.addO_O'] at h1 h2
      simp [due, h1, h2] at hdue
    · rw [S.addO_O _ _ _ (by omega)] at h1 h2
      exact wf.all i (by omega) h1 h2
  · intro i hi
    replace hi : i < S.m + 1 := hi
    by_cases e : i = S.m
    · subst e
      rw [S.addO_F']
      refine ⟨fun h => (by cases h), fun ⟨j, hj, e⟩ => ?_⟩
      have := wf.rng j hj
      replace e : S.T j = S.m := e
      simp only [e] at this
      omega
    · rw [S.addO_F _ _ _ (by omega)]; exact hF i (by omega)
theorem WS.putO {S : LD} (h : WS S) {i : Nat} (hi : i < S.m) (hd : Hold) (uv : Value) : WS (S.putO i hd uv) := by
  obtain ⟨wf, hF⟩ := h
  have hlt : ∀ j, j < S.u → S.T j < S.m := fun j hj => by have := wf.rng j hj; omega
  have hne : ∀ a b, a < b → b < S.u → S.T a ≠ S.T b := fun a b h1 h2 e => wf.uu a b h1 h2 (by simp only [e])
  by_cases hq : (hd.loc && !hd.tol && !S.F i) = true
  · have e0 : S.putO i hd uv = (S.setO i hd true).setU (S.u + 1) (fun j => if j = S.u then i else S.T j) uv := by unfold LD.putO; rw [if_pos hq]
    rw [e0]
    simp only [Bool.and_eq_true, Bool.not_eq_true'] at hq
    have hnl : ∀ j, j < S.u → S.T j ≠ i := fun j hj e => by have := (hF i hi).2 ⟨j, hj, e⟩; rw [hq.2] at this; cases this
    have eT : ∀ j, ((S.setO i hd true).setU (S.u + 1) (fun j => if j = S.u then i else S.T j) uv).T j = if j = S.u then i else S.T j := fun j => rfl
    refine ⟨⟨wf.lo, wf.hi, wf.ii, ?_, ?_, ?_, ?_, ?_⟩, ?_⟩
    · intro a b ha hb
      show (S.I a).res ≠ ((S.setO i hd true).O b).res
      rw [S.setO_res]; exact wf.io a b ha hb
    · intro a b ha hb
      show ((S.setO i hd true).O a).res ≠ ((S.setO i hd true).O b).res
      rw [S.setO_res, S.setO_res]; exact wf.oo a b ha hb
    · intro k hk
      replace hk : k < S.u + 1 := hk
      simp only [eT]
      show _ ∧ _ < ((S.m : Nat) : Int)
      by_cases e : k = S.u
      · rw [if_pos e]; omega
      · rw [if_neg e]; have := hlt k (by omega); omega
    · intro a b hab hb
      replace hb : b < S.u + 1 := hb
      simp only [eT]
      rw [if_neg (show a ≠ S.u by omega)]
      by_cases e : b = S.u
      · rw [if_pos e]; have := hnl a (by omega); omega
      · rw [if_neg e]; have := hne a b hab (by omega); omega
    · intro x hx h1 h2
      show ∃ k, k < S.u + 1 ∧ _
      by_cases e : x = i
      · exact ⟨S.u, by omega, by simp only [eT, if_pos rfl, e]; rfl⟩
      · have ex : ((S.setO i hd true).setU (S.u + 1) (fun j => if j = S.u then i else S.T j) uv).O x = S.O x := by show (if x = i then _ else S.O x) = _; rw [if_neg e]
        rw [ex] at h1 h2
        obtain ⟨k, hk, e'⟩ := wf.all x hx h1 h2
        exact ⟨k, by omega, by simp only [eT, if_neg (show k ≠ S.u by omega)]; exact e'⟩
    · intro x hx
      show (if x = i then true else S.F x) = true ↔ ∃ j, j < S.u + 1 ∧ (if j = S.u then i else S.T j) = x
      by_cases e : x = i
      · rw [if_pos e]
        exact ⟨fun _ => ⟨S.u, by omega, by rw [if_pos rfl, e]⟩, fun _ => rfl⟩
      · rw [if_neg e, hF x hx]
        refine ⟨fun ⟨j, hj, e'⟩ => ⟨j, by omega, by rw [if_neg (by omega)]; exact e'⟩, fun ⟨j, hj, e'⟩ => ?_⟩
        by_cases ej : j = S.u
        · rw [if_pos ej] at e'; exact (e e'.symm).elim
        · rw [if_neg ej] at e'; exact ⟨j, by omega, e'⟩
  · have e0 : S.putO i hd uv = S.setO i hd (S.F i) := by unfold LD.putO; rw [if_neg hq]
    rw [e0]
    refine ⟨⟨wf.lo, wf.hi, wf.ii, ?_, ?_, wf.rng, wf.uu, ?_⟩, ?_⟩
    · intro a b ha hb
      rw [S.setO_res]; exact wf.io a b ha hb
    · intro a b ha hb
      rw [S.setO_res, S.setO_res]; exact wf.oo a b ha hb
    · intro x hx h1 h2
      by_cases e : x = i
      · subst e
        rw [S.setO_O] at h1 h2
        have h1' : hd.loc = true := h1
        have h2' : hd.tol = false := h2
        have hf : S.F x = true := by simpa [h1', h2'] using hq
        obtain ⟨j, hj, e⟩ := (hF x hi).1 hf
        exact ⟨j, hj, by show ((S.T j : Nat) : Int) = _; rw [e]⟩
      · have ex : (S.setO i hd (S.F i)).O x = S.O x := by show (if x = i then _ else S.O x) = _; rw [if_neg e]
        rw [ex] at h1 h2
        exact wf.all x hx h1 h2
    · intro x hx
      show (if x = i then S.F i else S.F x) = true ↔ _
      by_cases e : x = i
      · rw [if_pos e, ← e]; exact hF x hx
      · rw [if_neg e]; exact hF x hx

theorem WS.of_make {S : LD} {I L : Nat → Lk} {N n u : Nat} {U : Nat → Int} (wf : WF I N L n U u) (eN : S.N = N) (eI : S.I = I) (em : S.m = n) (eO : S.O = L) (eu : S.u = u) (eT : S.T = fun i => (U i).toNat) (hF : ∀ i, i < n → (S.F i = true ↔ ∃ j, j < u ∧ (U j).toNat = i)) : WS S := by
  subst eN eI em eO eu
  have hT : ∀ k, S.T k = (U k).toNat := fun k => by rw [eT]
  refine ⟨⟨wf.lo, wf.hi, wf.ii, wf.io, wf.oo, fun k hk => ?_, fun k m h1 h2 e => ?_, fun i hi h1 h2 => ?_⟩, fun i hi => ?_⟩
  · have := wf.rng k hk
    rw [hT]; omega
  · have a1 := wf.rng k (by omega)
    have a2 := wf.rng m h2
    rw [hT, hT] at e
    exact wf.uu k m h1 h2 (by omega)
  · obtain ⟨k, hk, e⟩ := wf.all i hi h1 h2
    exact ⟨k, hk, by rw [hT]; omega⟩
  · rw [hF i hi, eT]

/-- the set behind 'put', said of the law's own input -/
structure PR (S : LD) (I : Nat → Lk) (N : Nat) (L : Nat → Lk) (n u : Nat) (r : ByteArray) (hd : Hold) : Prop where
  ws : WS S
  mi : ∀ i, i < N → (I i).res ≠ r → i < S.N ∧ S.I i = I i
  mo : ∀ i, i < n → (L i).res ≠ r → i < S.m ∧ S.O i = L i
  atI : ∀ k, k < S.N → (S.I k).res = r → (S.I k).hd = hd
  atO : ∀ i, i < S.m → (S.O i).res = r → (S.O i).hd = hd
  ex : (∃ k, k < S.N ∧ (S.I k).res = r) ∨ (∃ i, i < S.m ∧ (S.O i).res = r)
  cnt : (rep S.I S.N).length + (rep S.O S.m).length = ctr r I N + ctr r L n + (due1 ⟨r, hd⟩).length
  hu : S.u ≤ u + 1
  hm : S.m ≤ n + 1

theorem updI_res {X : Nat → Lk} {k : Nat} {r : ByteArray} (hr : (X k).res = r) (hd : Hold) (x : Nat) : (updI X k ⟨r, hd⟩ x).res = (X x).res := by
  by_cases e : x = k
  · subst e; rw [updI_same, hr]
  · rw [updI_other _ _ e]

theorem PR.ip {S : LD} (h : WS S) {r : ByteArray} {k N1 : Nat} (hN : N1 ≤ 4) (p : PlI S r k N1) (hd : Hold) : PR (S.setS N1 (updI S.I k ⟨r, hd⟩)) S.I S.N S.O S.m S.u r hd := by
  have ws := h.ip hN p hd
  have hk : k < N1 := by rcases p with ⟨⟨hk, _⟩, rfl⟩ | ⟨rfl, rfl, _⟩; exact hk; exact Nat.lt_succ_self _
  have hrk : (updI S.I k ⟨r, hd⟩ k).res = r := by rw [updI_same]
  have noO : NoO S r := fun i hi e => ws.1.io k i (show (k : Int) < (N1 : Int) by omega) hi (hrk.trans e.symm)
  refine ⟨ws, fun i hi hr => ?_, fun i hi hr => ⟨hi, rfl⟩, fun x hx hr => ?_, fun i hi hr => (noO i hi hr).elim, .inl ⟨k, hk, hrk⟩, ?_, Nat.le_succ _, Nat.le_succ _⟩
  · show i < N1 ∧ updI S.I k ⟨r, hd⟩ i = S.I i
    have hik : i ≠ k := by
      rcases p with ⟨⟨_, e, _⟩, _⟩ | ⟨rfl, _⟩
      · rintro rfl; exact hr e
      · omega
    refine ⟨?_, updI_other _ _ hik⟩
    rcases p with ⟨_, rfl⟩ | ⟨_, rfl, _⟩ <;> omega
  · replace hx : x < N1 := hx
    replace hr : (updI S.I k ⟨r, hd⟩ x).res = r := hr
    show (updI S.I k ⟨r, hd⟩ x).hd = hd
    have : x = k := by
      rcases Nat.lt_trichotomy x k with h | h | h
      · exact (ws.1.ii x k h (show (k : Int) < (N1 : Int) by omega) (hr.trans hrk.symm)).elim
      · exact h
      · exact (ws.1.ii k x h (show (x : Int) < (N1 : Int) by omega) (hrk.trans hr.symm)).elim
    rw [this, updI_same]
  · show (rep (updI S.I k ⟨r, hd⟩) N1).length + (rep S.O S.m).length = _
    rw [ctr_none S.m noO]
    rcases p with ⟨⟨hk', e, _⟩, rfl⟩ | ⟨rfl, rfl, _, hno, _⟩
    · rw [rep_upd r S.I k ⟨r, hd⟩ S.N (fun j hj hne e' => ?_) (fun _ => e), if_pos hk']
      · omega
      · rcases Nat.lt_trichotomy j k with h' | h' | h'
        · exact h.1.ii j k h' (by omega) (e'.trans e.symm)
        · exact hne h'
        · exact h.1.ii k j h' (by omega) (e.trans e'.symm)
    · rw [rep_new r S.I ⟨r, hd⟩ S.N hno]
      omega

theorem PR.ot {S S0 : LD} (h : WS S) {r : ByteArray} {i : Nat} (p : PlO S r i S0) (hd : Hold) (uv : Value) : PR (S0.putO i hd uv) S.I S.N S.O S.m S.u r hd := by
  obtain ⟨hi, hr, hu⟩ := p.lt
  have h0 : WS S0 := by
    rcases p with ⟨rfl, _⟩ | ⟨_, _, hI, hO, l, b, mb, rfl, rfl, hdue⟩
    · exact h
    · exact h.addO b mb hI hO hdue
  have ws := h0.putO hi hd uv
  obtain ⟨eI, eN, em⟩ := S0.putO_I i hd uv
  have eO := S0.putO_O i hd uv
  rw [hr] at eO
  have eI0 : S0.I = S.I ∧ S0.N = S.N := by
    rcases p with ⟨rfl, _⟩ | ⟨_, _, _, _, l, b, mb, rfl, _, _⟩ <;> exact ⟨rfl, rfl⟩
  have noI : NoI S r := by
    rcases p with ⟨_, _, _, hI⟩ | ⟨_, _, hI, _⟩ <;> exact hI
  have hm0 : S0.m ≤ S.m + 1 ∧ S.m ≤ S0.m := by
    rcases p with ⟨rfl, _⟩ | ⟨_, _, _, _, l, b, mb, rfl, _, _⟩
    · exact ⟨Nat.le_succ _, Nat.le_refl _⟩
    · exact ⟨Nat.le_refl _, Nat.le_succ _⟩
  have hold : ∀ j, j < S.m → S0.O j = S.O j := fun j hj => by
    rcases p with ⟨rfl, _⟩ | ⟨_, _, _, _, l, b, mb, rfl, _, _⟩
    · rfl
    · exact S.addO_O _ _ _ hj
  have hri : ((S0.putO i hd uv).O i).res = r := by rw [eO, updI_same]
  refine ⟨ws, fun x hx hrx => ⟨by rw [eN, eI0.2]; exact hx, by rw [eI, eI0.1]⟩, fun x hx hrx => ⟨by rw [em]; omega, ?_⟩, fun x hx hrx => ?_, fun x hx hrx => ?_, .inr ⟨i, by rw [em]; exact hi, hri⟩, ?_, ?_, by rw [em]; exact hm0.1⟩
  · rw [eO, updI_other _ _ (fun e => hrx (by rw [← hold x hx, e]; exact hr)), hold x hx]
  · rw [eN, eI0.2] at hx
    rw [eI, eI0.1] at hrx
    exact (noI x hx hrx).elim
  · have : x = i := by
      rcases Nat.lt_trichotomy x i with h | h | h
      · exact (ws.1.oo x i h (by rw [em]; exact hi) (hrx.trans hri.symm)).elim
      · exact h
      · exact (ws.1.oo i x h hx (hri.trans hrx.symm)).elim
    rw [this, eO, updI_same]
  · rw [eI, eN, eI0.1, eI0.2, em, eO, ctr_none S.N noI]
    rcases p with ⟨rfl, hi', e, _⟩ | ⟨rfl, _, _, hO, l, b, mb, rfl, _, _⟩
    · rw [rep_upd r S0.O i ⟨r, hd⟩ S0.m (fun j hj hne e' => ?_) (fun _ => e), if_pos hi]
      · omega
      · rcases Nat.lt_trichotomy j i with h' | h' | h'
        · exact h.1.oo j i h' hi (e'.trans e.symm)
        · exact hne h'
        · exact h.1.oo i j h' hj (e.trans e'.symm)
    · have eu : updI (S.addO l b mb).O S.m ⟨r, hd⟩ = updI S.O S.m ⟨r, hd⟩ := by
        funext j
        by_cases e : j = S.m
        · rw [e, updI_same, updI_same]
        · rw [updI_other _ _ e, updI_other _ _ e]
          show (if j = S.m then _ else S.O j) = S.O j
          rw [if_neg e]
      rw [eu]
      show _ + (rep _ (S.m + 1)).length = _
      rw [rep_new r S.O ⟨r, hd⟩ S.m hO]
      omega
  · have := S0.putO_u i hd uv
    rw [hu] at this
    exact this

def LD.G (S : LD) : List (ByteArray × ByteArray) := rep S.I S.N ++ rep (fun j => S.O (S.T j)) S.u
theorem T_nat (S : LD) : (fun j => S.O (((S.T j : Nat) : Int).toNat)) = fun j => S.O (S.T j) := by funext j; rw [Int.toNat_natCast]
theorem PR.cI {S : LD} {I L : Nat → Lk} {N n u : Nat} {r : ByteArray} {hd : Hold} (p : PR S I N L n u r hd) (i : Nat) (hi : i < N) (hr : (I i).res ≠ r) (hdue : due (I i) = true) : cq (I i).res (I i).hd.mode S.G = 1 := by
  obtain ⟨h1, h2⟩ := p.mi i hi hr
  have := cq_I p.ws.1 i h1 (by rw [h2]; exact hdue)
  simp only [T_nat, h2] at this
  exact this
theorem PR.cL {S : LD} {I L : Nat → Lk} {N n u : Nat} {r : ByteArray} {hd : Hold} (p : PR S I N L n u r hd) (i : Nat) (hi : i < n) (hr : (L i).res ≠ r) (hdue : due (L i) = true) : cq (L i).res (L i).hd.mode S.G = 1 := by
  obtain ⟨h1, h2⟩ := p.mo i hi hr
  have := cq_L p.ws.1 i h1 (by rw [h2]; exact hdue)
  simp only [T_nat, h2] at this
  exact this
theorem PR.cR {S : LD} {I L : Nat → Lk} {N n u : Nat} {r : ByteArray} {hd : Hold} (p : PR S I N L n u r hd) (hdue : due ⟨r, hd⟩ = true) : cq r hd.mode S.G = 1 := by
  rcases p.ex with ⟨k, hk, e⟩ | ⟨k, hk, e⟩
  · have e2 := p.atI k hk e
    have e3 : S.I k = ⟨r, hd⟩ := by rw [← e, ← e2]
    have := cq_I p.ws.1 k hk (by rw [e3]; exact hdue)
    simp only [T_nat, e3] at this
    exact this
  · have e2 := p.atO k hk e
    have e3 : S.O k = ⟨r, hd⟩ := by rw [← e, ← e2]
    have := cq_L p.ws.1 k hk (by rw [e3]; exact hdue)
    simp only [T_nat, e3] at this
    exact this
theorem PR.cG {S : LD} {I L : Nat → Lk} {N n u : Nat} {r : ByteArray} {hd : Hold} (p : PR S I N L n u r hd) : S.G.length = ctr r I N + ctr r L n + (due1 ⟨r, hd⟩).length := by
  rw [← p.cnt]
  have := len_G p.ws.1
  simp only [T_nat] at this
  exact this
theorem WS.inj {S : LD} (h : WS S) : ∀ i j, i < j → j < S.u → S.T i ≠ S.T j := fun i j h1 h2 e => h.1.uu i j h1 h2 (by simp only [e])
theorem WS.told {S : LD} (h : WS S) (uv : Value) : Told (((S.tellI S.N).tellO S.u).setU 0 S.T uv) S.N S.m S.I S.O :=
  told_of h.1 rfl rfl rfl rfl rfl (by simp only [Int.toNat_natCast]) (fun i hi => by simp only [Int.toNat_natCast]; exact h.2 i hi) uv

end Go.Proofs.Qxb6605402a
