import Derived.Test.Qxb6605402aTl
namespace Go.Proofs.Qxb6605402a
open Go.RowKit
set_option linter.unusedVariables false
set_option linter.unusedSimpArgs false

/-! ### counting, in plain lists -/
def isAt (r m : ByteArray) (p : ByteArray × ByteArray) : Bool := p.1.toList == r.toList && p.2.toList == m.toList
def cq (r m : ByteArray) (G : List (ByteArray × ByteArray)) : Nat := (G.filter (isAt r m)).length
theorem cq_append (r m : ByteArray) (A B : List (ByteArray × ByteArray)) : cq r m (A ++ B) = cq r m A + cq r m B := by simp [cq, List.filter_append]
theorem list_eq_map {α : Type} (G : List α) (d : α) : G = (List.range G.length).map (fun i => G[i]?.getD d) := by
  apply List.ext_getElem?
  intro i
  by_cases h : i < G.length
  · simp [h]
  · simp [h]
theorem filter_range (G : List (ByteArray × ByteArray)) (d : ByteArray × ByteArray) (q : ByteArray × ByteArray → Bool) : ((List.range G.length).filter fun i => q (G[i]?.getD d)).length = (G.filter q).length := by
  have h := list_eq_map G d
  have e : G.filter q = ((List.range G.length).map (fun i => G[i]?.getD d)).filter q := by rw [← h]
  rw [e, List.filter_map, List.length_map]
  rfl
theorem cq_due1_ne {r m : ByteArray} {l : Lk} (h : l.res ≠ r ∨ due l = false) : cq r m (due1 l) = 0 := by
  unfold due1 cq
  by_cases hd : due l = true
  · have hne : l.res ≠ r := by rcases h with h | h; exact h; rw [hd] at h; cases h
    simp [hd, isAt, List.filter_cons, strF hne]
  · simp [hd]
theorem cq_due1_eq {l : Lk} (h : due l = true) : cq l.res l.hd.mode (due1 l) = 1 := by
  unfold due1 cq
  simp [h, isAt]
theorem cq_rep_zero {r m : ByteArray} {X : Nat → Lk} : ∀ k : Nat, (∀ i, i < k → (X i).res ≠ r) → cq r m (rep X k) = 0
  | 0, _ => rfl
  | k + 1, h => by rw [rep_succ, cq_append, cq_rep_zero k (fun i hi => h i (by omega)), cq_due1_ne (.inl (h k (by omega)))]
theorem cq_rep_one {X : Nat → Lk} {i : Nat} (hd : due (X i) = true) : ∀ k : Nat, i < k → (∀ j, j < k → (X j).res = (X i).res → j = i) → cq (X i).res (X i).hd.mode (rep X k) = 1
  | 0, h, _ => by omega
  | k + 1, h, hu => by
    rw [rep_succ, cq_append]
    by_cases e : k = i
    · subst e
      rw [cq_rep_zero k (fun j hj e => by have := hu j (by omega) e; omega), cq_due1_eq hd]
    · rw [cq_rep_one hd k (by omega) (fun j hj => hu j (by omega)), cq_due1_ne (.inl (fun e' => e (hu k (by omega) e')))]

/-! ### two families with the same members due -/
theorem nodup_le {l₁ : List Nat} : ∀ {l₂ : List Nat}, l₁.Nodup → (∀ x, x ∈ l₁ → x ∈ l₂) → l₁.length ≤ l₂.length := by
  induction l₁ with
  | nil => intro l₂ _ _; simp
  | cons a r ih =>
    intro l₂ hn hs
    have ha := hs a (by simp)
    rw [List.nodup_cons] at hn
    have h1 : r.length ≤ (l₂.erase a).length := ih hn.2 (fun x hx => by
      have hne : x ≠ a := fun e => hn.1 (e ▸ hx)
      exact (List.mem_erase_of_ne hne).2 (hs x (by simp [hx])))
    rw [List.length_erase_of_mem ha] at h1
    have : 0 < l₂.length := List.length_pos_of_mem ha
    simp only [List.length_cons]
    omega
theorem rep_count (X : Nat → Lk) (k : Nat) : (rep X k).length = ((List.range k).filter fun i => due (X i)).length := by
  induction k with
  | zero => rfl
  | succ k ih =>
    rw [rep_succ, List.length_append, ih, List.range_succ, List.filter_append, List.length_append]
    congr 1
    unfold due1
    by_cases h : due (X k) = true <;> simp [h]
theorem rep_same {L : Nat → Lk} {n u : Nat} {T : Nat → Nat} (hT : ∀ j, j < u → T j < n) (hi : ∀ i j, i < j → j < u → T i ≠ T j) (ha : ∀ i, i < n → due (L i) = true → ∃ j, j < u ∧ T j = i) : (rep L n).length = (rep (fun j => L (T j)) u).length := by
  rw [rep_count, rep_count]
  have nr : ∀ k, (List.range k).Nodup := fun k => List.nodup_range
  have e : ((List.range u).filter fun j => due (L (T j))).length = (((List.range u).filter fun j => due (L (T j))).map T).length := by simp
  rw [e]
  apply Nat.le_antisymm
  · refine nodup_le ((nr n).filter _) (fun x hx => ?_)
    simp only [List.mem_filter, List.mem_range] at hx
    obtain ⟨j, hj, e⟩ := ha x hx.1 hx.2
    simp only [List.mem_map, List.mem_filter, List.mem_range]
    exact ⟨j, ⟨hj, by rw [e]; exact hx.2⟩, e⟩
  · refine nodup_le ?_ (fun x hx => ?_)
    · have hp : ((List.range u).filter fun j => due (L (T j))).Pairwise (fun a b => T a ≠ T b) := by
        have h1 : (List.range u).Pairwise (fun a b => a < b) := List.pairwise_lt_range
        have h2 := h1.filter (fun j => due (L (T j)))
        refine List.Pairwise.imp_of_mem ?_ h2
        intro a b hma hmb hab
        simp only [List.mem_filter, List.mem_range] at hmb
        exact hi a b hab hmb.1
      exact List.pairwise_map.2 hp
    · simp only [List.mem_map, List.mem_filter, List.mem_range] at hx
      obtain ⟨j, ⟨hj, hd⟩, rfl⟩ := hx
      simp only [List.mem_filter, List.mem_range]
      exact ⟨hT j hj, hd⟩
theorem rep_told (X : Nat → Lk) (k : Nat) (h : ∀ i, i < k → due (X i) = false) : rep X k = [] := by
  induction k with
  | zero => rfl
  | succ k ih => rw [rep_succ, ih (fun i hi => h i (by omega))]; simp [due1, h k (by omega)]
theorem due_tldL (l : Lk) : due (tldL l) = false := by
  simp only [due, tldL, tld]
  cases l.hd.loc <;> cases l.hd.tol <;> rfl

end Go.Proofs.Qxb6605402a
