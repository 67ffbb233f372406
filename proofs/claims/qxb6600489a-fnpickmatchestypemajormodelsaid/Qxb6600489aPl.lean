import Derived.Test.Qxb6600489aFn2
namespace Go.Proofs.Qxb6600489a
open Go.RowKit
set_option linter.unusedVariables false
set_option linter.unusedSimpArgs false

/-- The first of the first k transforms that is of the type asked for at j and is offered. -/
def fi (P O : Nat → Tr) (no : Nat) (Y : Nat → Int) (j : Nat) : Nat → Option Nat
  | 0 => none
  | k + 1 => match fi P O no Y j k with
    | some i => some i
    | none => if (P k).ty = Y j ∧ has O no (P k) = true then some k else none
/-- The type at j is no group, and is asked for here first. -/
def Nd (Y : Nat → Int) (j : Nat) : Prop := Y j ≠ 4 ∧ ∀ k, k < j → Y k ≠ Y j
/-- none of the first k is t -/
def none4 (Y : Nat → Int) (t : Int) : Nat → Bool
  | 0 => true
  | k + 1 => none4 Y t k && !(Y k == t)
theorem none4_iff (Y : Nat → Int) (t : Int) : ∀ j, none4 Y t j = true ↔ ∀ k, k < j → Y k ≠ t
  | 0 => ⟨fun _ k hk => by omega, fun _ => rfl⟩
  | j + 1 => by
    show (none4 Y t j && !(Y j == t)) = true ↔ _
    rw [Bool.and_eq_true, none4_iff Y t j]
    constructor
    · intro ⟨h1, h2⟩ k hk
      by_cases e : k = j
      · subst e; simpa using h2
      · exact h1 k (by omega)
    · intro h
      exact ⟨fun k hk => h k (by omega), by simpa using h j (by omega)⟩
def nd (Y : Nat → Int) (j : Nat) : Bool := !(Y j == 4) && none4 Y (Y j) j
theorem nd_iff (Y : Nat → Int) (j : Nat) : nd Y j = true ↔ Nd Y j := by
  unfold nd Nd
  rw [Bool.and_eq_true, none4_iff]
  simp
theorem nd_not (Y : Nat → Int) (j : Nat) : nd Y j = false ↔ ¬ Nd Y j := by
  rw [← nd_iff]
  cases nd Y j <;> simp
def fil (P O : Nat → Tr) (no : Nat) (Y : Nat → Int) (j k : Nat) : Bool := nd Y j && (fi P O no Y j k).isSome
/-- The groups among the first k transforms. -/
def G (P : Nat → Tr) : Nat → List Int
  | 0 => []
  | k + 1 => if (P k).ty = 4 then G P k ++ [(P k).id] else G P k
/-- What pick holds for good. -/
def Good (P O : Nat → Tr) (np no : Nat) (Y : Nat → Int) (ny : Nat) : Prop := (∀ i, i < np → (P i).ty ≠ 4 → ∃ j, j < ny ∧ Y j = (P i).ty) ∧ ∀ j, j < ny → fil P O no Y j np = true

section
variable {P O : Nat → Tr} {no : Nat} {Y : Nat → Int}
theorem fi_other {j k : Nat} (h : (P k).ty ≠ Y j) : fi P O no Y j (k + 1) = fi P O no Y j k := by
  show (match fi P O no Y j k with | some i => some i | none => if (P k).ty = Y j ∧ has O no (P k) = true then some k else none) = _
  cases fi P O no Y j k with
  | some i => rfl
  | none => simp [h]
theorem fi_notacc {j k : Nat} (h : has O no (P k) = false) : fi P O no Y j (k + 1) = fi P O no Y j k := by
  show (match fi P O no Y j k with | some i => some i | none => if (P k).ty = Y j ∧ has O no (P k) = true then some k else none) = _
  cases fi P O no Y j k with
  | some i => rfl
  | none => simp [h]
theorem fi_some {j k i : Nat} (h : fi P O no Y j k = some i) : fi P O no Y j (k + 1) = some i := by
  show (match fi P O no Y j k with | some i => some i | none => if (P k).ty = Y j ∧ has O no (P k) = true then some k else none) = _
  rw [h]
theorem fi_new {j k : Nat} (h : fi P O no Y j k = none) (h1 : (P k).ty = Y j) (h2 : has O no (P k) = true) : fi P O no Y j (k + 1) = some k := by
  show (match fi P O no Y j k with | some i => some i | none => if (P k).ty = Y j ∧ has O no (P k) = true then some k else none) = _
  rw [h]; simp [h1, h2]
theorem fi_lt {j i : Nat} : ∀ {k}, fi P O no Y j k = some i → i < k
  | 0, h => by cases h
  | k + 1, h => by
    by_cases h0 : (P k).ty = Y j ∧ has O no (P k) = true
    · cases e : fi P O no Y j k with
      | some i' => rw [fi_some e] at h; cases h; exact Nat.lt_succ_of_lt (fi_lt e)
      | none => rw [fi_new e h0.1 h0.2] at h; cases h; exact Nat.lt_succ_self _
    · have : fi P O no Y j (k + 1) = fi P O no Y j k := by
        by_cases h1 : (P k).ty = Y j
        · refine fi_notacc ?_
          cases hh : has O no (P k) with
          | false => rfl
          | true => exact (h0 ⟨h1, hh⟩).elim
        · exact fi_other h1
      rw [this] at h
      exact Nat.lt_succ_of_lt (fi_lt h)
/-- A group's round. -/
theorem dh_fi {j k : Nat} (h : (P k).ty = 4) (hn : Nd Y j) : fi P O no Y j (k + 1) = fi P O no Y j k := fi_other (by rw [h]; exact hn.1.symm)
theorem dh_fil {j k : Nat} (h : (P k).ty = 4) : fil P O no Y j (k + 1) = fil P O no Y j k := by
  unfold fil
  cases e : nd Y j with
  | false => rfl
  | true => rw [dh_fi h ((nd_iff _ _).1 e)]
/-- Another type's round: i is where the transform's type is asked for first. -/
theorem ot_ne {j i k : Nat} (h1 : Y i = (P k).ty) (h2 : ∀ m, m < i → Y m ≠ (P k).ty) (hj : j ≠ i) (hn : Nd Y j) : (P k).ty ≠ Y j := by
  intro e
  rcases Nat.lt_trichotomy j i with h | h | h
  · exact h2 j h e.symm
  · exact hj h
  · exact hn.2 i h (by rw [h1, e])
theorem ot_fi {j i k : Nat} (h1 : Y i = (P k).ty) (h2 : ∀ m, m < i → Y m ≠ (P k).ty) (hj : j ≠ i) (hn : Nd Y j) : fi P O no Y j (k + 1) = fi P O no Y j k := fi_other (ot_ne h1 h2 hj hn)
theorem ot_fil {j i k : Nat} (h1 : Y i = (P k).ty) (h2 : ∀ m, m < i → Y m ≠ (P k).ty) (hj : j ≠ i) : fil P O no Y j (k + 1) = fil P O no Y j k := by
  unfold fil
  cases e : nd Y j with
  | false => rfl
  | true => rw [ot_fi h1 h2 hj ((nd_iff _ _).1 e)]
theorem ot_nd {i k : Nat} (h0 : (P k).ty ≠ 4) (h1 : Y i = (P k).ty) (h2 : ∀ m, m < i → Y m ≠ (P k).ty) : Nd Y i := ⟨by rw [h1]; exact h0, fun m hm => by rw [h1]; exact h2 m hm⟩
theorem fil_fi {i k : Nat} (hn : Nd Y i) : fil P O no Y i k = (fi P O no Y i k).isSome := by
  unfold fil; rw [(nd_iff _ _).2 hn, Bool.true_and]
theorem fil_yes {i k : Nat} (h : fil P O no Y i k = true) : Nd Y i ∧ ∃ m, fi P O no Y i k = some m := by
  unfold fil at h
  rw [Bool.and_eq_true] at h
  exact ⟨(nd_iff _ _).1 h.1, Option.isSome_iff_exists.1 h.2⟩
/-- the rows behind k transforms -/
structure PI (P O : Nat → Tr) (no : Nat) (Y : Nat → Int) (ny : Nat) (w : World) (tb fb k : Nat) : Prop where
  rt : Row w tb 42 (ny * 3)
  rf : Row w fb 4 ny
  ts : ∀ j, j < ny → Nd Y j → ∀ i, fi P O no Y j k = some i → TrAt w tb (j * 3) (P i)
  fl : ∀ j, j < ny → w.cell? ⟨fb, j, none⟩ = some (.bool (fil P O no Y j k))
  ne : tb ≠ fb
theorem PI.keep {ny : Nat} {w w' : World} {tb fb k : Nat} (h : PI P O no Y ny w tb fb k) (e1 : w'.heap[tb]? = w.heap[tb]?) (e2 : w'.heap[fb]? = w.heap[fb]?) : PI P O no Y ny w' tb fb k :=
  ⟨h.rt.of_block e1, h.rf.of_block e2, fun j hj hn i hi => (h.ts j hj hn i hi).keep e1, fun j hj => (cell_blk e2).trans (h.fl j hj), h.ne⟩
theorem PI.dh {ny : Nat} {w : World} {tb fb k : Nat} (h : PI P O no Y ny w tb fb k) (h4 : (P k).ty = 4) : PI P O no Y ny w tb fb (k + 1) :=
  ⟨h.rt, h.rf, fun j hj hn i hi => h.ts j hj hn i (by rw [← dh_fi h4 hn]; exact hi), fun j hj => by rw [dh_fil h4]; exact h.fl j hj, h.ne⟩
/-- nothing is stored -/
theorem PI.stay {ny : Nat} {w : World} {tb fb k i : Nat} (h : PI P O no Y ny w tb fb k) (h1 : Y i = (P k).ty) (h2 : ∀ m, m < i → Y m ≠ (P k).ty) (e : fi P O no Y i (k + 1) = fi P O no Y i k) : PI P O no Y ny w tb fb (k + 1) := by
  have ef : ∀ j, fil P O no Y j (k + 1) = fil P O no Y j k := fun j => by
    by_cases hj : j = i
    · subst hj; unfold fil; rw [e]
    · exact ot_fil h1 h2 hj
  refine ⟨h.rt, h.rf, fun j hj hn m hm => ?_, fun j hj => by rw [ef j]; exact h.fl j hj, h.ne⟩
  by_cases hji : j = i
  · subst hji; exact h.ts j hj hn m (by rw [← e]; exact hm)
  · exact h.ts j hj hn m (by rw [← ot_fi h1 h2 hji hn]; exact hm)
/-- the transform is stored -/
theorem PI.store {ny : Nat} {w : World} {tb fb k i : Nat} (h : PI P O no Y ny w tb fb k) (hi : i < ny) (h0 : (P k).ty ≠ 4) (h1 : Y i = (P k).ty) (h2 : ∀ m, m < i → Y m ≠ (P k).ty) (hf : fil P O no Y i k = false) (ha : has O no (P k) = true) :
    PI P O no Y ny ((((w.setCell ⟨tb, i * 3, none⟩ (.int .u8 (P k).ty)).setCell ⟨tb, i * 3 + 1, none⟩ (.int .u16 (P k).id)).setCell ⟨tb, i * 3 + 2, none⟩ (.int .u16 (P k).kl)).setCell ⟨fb, i, none⟩ (.bool true)) tb fb (k + 1) := by
  have hn := ot_nd h0 h1 h2
  have hnone : fi P O no Y i k = none := by
    rw [fil_fi hn] at hf
    cases e : fi P O no Y i k with
    | none => rfl
    | some m => rw [e] at hf; cases hf
  have hnew := fi_new (P := P) (O := O) (no := no) (Y := Y) hnone h1.symm ha
  have r1 := ((h.rt.setCell ⟨tb, i * 3, none⟩ (.int .u8 (P k).ty)).setCell ⟨tb, i * 3 + 1, none⟩ (.int .u16 (P k).id)).setCell ⟨tb, i * 3 + 2, none⟩ (.int .u16 (P k).kl)
  have ef : (((w.setCell ⟨tb, i * 3, none⟩ (.int .u8 (P k).ty)).setCell ⟨tb, i * 3 + 1, none⟩ (.int .u16 (P k).id)).setCell ⟨tb, i * 3 + 2, none⟩ (.int .u16 (P k).kl)).heap[fb]? = w.heap[fb]? :=
    (setCell_other _ _ h.ne.symm).trans ((setCell_other _ _ h.ne.symm).trans (setCell_other _ _ h.ne.symm))
  have rf := h.rf.of_block ef
  have et : ∀ (W : World), (W.setCell ⟨fb, i, none⟩ (.bool true)).heap[tb]? = W.heap[tb]? := fun W => setCell_other _ _ h.ne
  refine ⟨r1.of_block (et _), rf.setCell _ _, fun j hj hnj m hm => ?_, fun j hj => ?_, h.ne⟩
  · refine TrAt.keep ?_ (et _)
    by_cases e : j = i
    · subst e
      rw [hnew] at hm
      cases hm
      exact TrAt.put h.rt (by omega) (P k)
    · rw [ot_fi h1 h2 e hnj] at hm
      refine TrAt.out (P k) (h.ts j hj hnj m hm) ?_
      rcases Nat.lt_or_gt_of_ne e with h' | h'
      · exact .inl (by omega)
      · exact .inr (by omega)
  · by_cases e : j = i
    · subst e
      rw [fil_fi hn, hnew]
      exact cell_same rf hi
    · rw [ot_fil h1 h2 e]
      exact (cell_other (.inr e)).trans ((cell_blk ef).trans (h.fl j hj))
theorem PI.good {ny np : Nat} {w : World} {tb fb : Nat} (h : PI P O no Y ny w tb fb np) (hg : ∀ j, j < ny → fil P O no Y j np = true) : ∀ j, j < ny → ∃ i, fi P O no Y j np = some i ∧ TrAt w tb (j * 3) (P i) := fun j hj => by
  obtain ⟨hn, m, hm⟩ := fil_yes (hg j hj)
  exact ⟨m, hm, h.ts j hj hn m hm⟩
end
theorem G_len (P : Nat → Tr) : ∀ k, (G P k).length ≤ k
  | 0 => Nat.le_refl _
  | k + 1 => by
    have := G_len P k
    unfold G
    split
    · simp; exact this
    · omega

/-- 'append(v, x)' of one number of 16 bits -/
theorem wpList_app16 {t e : TypeId} (ht : Try.prog.underlying t = some (.slice e)) (hinfo : (Try.prog.info? e).map (fun i => (i.zero.map (·.cells.size), i.size, i.bytes)) = some (some 1, 1, 2)) {w : World} {ops : Array Oper} {rest : List Oper} {o : Oper} {a : Act} {Q : Exit → Act → World → Prop} (hgd : o.guard = none) (s x : Operand)
    (ho : o.op = .call { callee := .builtin .append, args := #[s, x], argTypes := #[t, t] })
    (base : Nat) (v : Value) (n : Nat) (xs : List Value) (hs : a.eval s = v) (hown : w.ownsRow base e 1 v n xs)
    (g0 : Nat) (y : Int) (hx : a.eval x = .slice (some ⟨g0, 0, none⟩) 1 1) (hg : w.heap[g0]? = some (.cells #[.int .u16 y] e))
    (hn : n ≤ 16384) (hbase : base ≤ w.heap.size)
    (h : ∀ g cap w', w'.ownsRow base e 1 (.slice (some ⟨g, 0, none⟩) (n + 1) cap) (n + 1) (xs ++ [.int .u16 y]) → w.grownBy w' v.ownBlock → wpList Try.prog ops Q rest (a.put o.dst (.slice (some ⟨g, 0, none⟩) (n + 1) cap)) w') : wpList Try.prog ops Q (o :: rest) a w := by
  obtain ⟨i, hi, hzz⟩ := Option.map_eq_some_iff.1 hinfo
  simp only [Prod.mk.injEq, Option.map_eq_some_iff] at hzz
  obtain ⟨⟨z, hz, hzc⟩, hsz, hbb⟩ := hzz
  refine wpList_append_lies w hgd s x t ho base e i z 1 2 ht hi hz hsz hbb hzc (by omega) v n xs hs hown ⟨g0, 0, none⟩ 1 1 [.int .u16 y] hx rfl (fun j u hu => ?_) (by simp [Value.oneCell']) (by omega) (by unfold maxLen; omega) (by omega) hbase _ rfl fun g cap w' h1 h2 h3 h4 => h g cap w' h1 h2
  match j, hu with
  | 0, hu =>
    rw [Addr.add_mid, cell_of_heap hg]
    simpa using hu
  | j + 1, hu => simp at hu
theorem Try.sz45 : (Try.prog.info? 45).map (fun i => (i.zero.map (·.cells.size), i.size, i.bytes)) = some (some 1, 1, 2) := by kernel_rfl
theorem Try.sz40 : (Try.prog.info? 40).map (fun i => (i.zero.map (·.cells.size), i.size, i.bytes)) = some (some 1, 1, 2) := by kernel_rfl
theorem own_blk {e : TypeId} {w : World} {base : Nat} {v : Value} {n : Nat} {xs : List Value} (h : w.ownsRow base e 1 v n xs) {k : Nat} (hk : v.ownBlock = some k) : base ≤ k ∧ k < w.heap.size := by
  rcases h.2 with ⟨e, _⟩ | ⟨g, c, cur, e, hb, hg, _⟩
  · subst e; cases hk
  · subst e
    cases hk
    exact ⟨hb, heap_lt hg⟩
/-- what is owned, read -/
theorem BtAt.of_own {e : TypeId} {w : World} {base : Nat} {a : Option Addr} {n cap : Nat} {l : List Int} (h : w.ownsRow base e 1 (.slice a n cap) n (l.map (Value.int .u16))) : BtAt .u16 w a n (fun i => l.getD i 0) := fun i hi => by
  obtain ⟨g, cap', e1, _, hlt⟩ := h.form (by omega)
  cases e1
  have hl : l.length = n := by simpa using h.1
  have hi' : i < l.length := by omega
  refine ⟨g, 0, rfl, hlt, ?_⟩
  have := h.cells (g := g) rfl i (.int .u16 (l.getD i 0)) (by simp [hi'])
  rw [Addr.add_mid] at this
  exact this

end Go.Proofs.Qxb6600489a
