import Derived.Test.Qxb6605402aApp
namespace Go.Proofs.Qxb6605402a
open Go.RowKit Go.Maps
set_option linter.unusedVariables false
set_option linter.unusedSimpArgs false

/-! ### what 'tell' does to a lock -/
def tld (h : Hold) : Hold := { h with tol := h.tol || h.loc }
def tldL (l : Lk) : Lk := ⟨l.res, tld l.hd⟩
/-- told of: local and not told -/
def due (l : Lk) : Bool := l.hd.loc && !l.hd.tol
def due1 (l : Lk) : List (ByteArray × ByteArray) := if due l then [(l.res, l.hd.mode)] else []
theorem tldL_not_due {l : Lk} (h : due l = false) : tldL l = l := by
  obtain ⟨r, m, v, c, lo, tt, wr, t, q⟩ := l
  simp only [due, Bool.and_eq_false_iff] at h
  simp only [tldL, tld, Lk.mk.injEq, Hold.mk.injEq, true_and, and_true]
  cases lo <;> cases tt <;> simp_all
theorem tldL_due {l : Lk} (h : due l = true) : tldL l = ⟨l.res, { l.hd with tol := true }⟩ := by
  obtain ⟨r, m, v, c, lo, tt, wr, t, q⟩ := l
  simp only [due, Bool.and_eq_true] at h
  simp only [tldL, tld, Lk.mk.injEq, Hold.mk.injEq, true_and, and_true]
  cases lo <;> cases tt <;> simp_all
theorem tldL_res (l : Lk) : (tldL l).res = l.res := rfl

def pairCells (G : List (ByteArray × ByteArray)) : List Value := G.flatMap fun p => [.string p.1, .string p.2]
theorem pairCells_append (G G' : List (ByteArray × ByteArray)) : pairCells (G ++ G') = pairCells G ++ pairCells G' := List.flatMap_append
/-- reported of the first k of a family -/
def rep (X : Nat → Lk) (k : Nat) : List (ByteArray × ByteArray) := (List.range k).flatMap fun i => due1 (X i)
theorem rep_succ (X : Nat → Lk) (k : Nat) : rep X (k + 1) = rep X k ++ due1 (X k) := by
  unfold rep; rw [List.range_succ, List.flatMap_append, List.flatMap_singleton]
theorem rep_len (X : Nat → Lk) (k : Nat) : (rep X k).length ≤ k := by
  induction k with
  | zero => simp [rep]
  | succ k ih =>
    rw [rep_succ, List.length_append]
    have : (due1 (X k)).length ≤ 1 := by unfold due1; split <;> simp
    omega

/-- the locks in place, k of them told -/
def LD.tellI (S : LD) (k : Nat) : LD := S.setS S.N (fun i => if i < k then tldL (S.I i) else S.I i)
theorem LD.tellI_zero (S : LD) : S.tellI 0 = S := by
  simp [LD.tellI, LD.setS]
/-- is i among the first j of the untold? -/
def inT (T : Nat → Nat) (j i : Nat) : Bool := (List.range j).any fun x => T x == i
theorem inT_iff (T : Nat → Nat) (j i : Nat) : inT T j i = true ↔ ∃ x, x < j ∧ T x = i := by simp [inT]
theorem inT_succ (T : Nat → Nat) (j i : Nat) : inT T (j + 1) i = (inT T j i || T j == i) := by
  rw [Bool.eq_iff_iff, Bool.or_eq_true, inT_iff, inT_iff, beq_iff_eq]
  constructor
  · rintro ⟨x, hx, e⟩
    by_cases h : x = j
    · subst h; exact .inr e
    · exact .inl ⟨x, by omega, e⟩
  · rintro (⟨x, hx, e⟩ | e)
    · exact ⟨x, by omega, e⟩
    · exact ⟨j, by omega, e⟩
def LD.tellO (S : LD) (j : Nat) : LD := { S with O := fun i => if inT S.T j i then tldL (S.O i) else S.O i, F := fun i => if inT S.T j i then false else S.F i }
theorem LD.tellO_zero (S : LD) : S.tellO 0 = S := by
  simp [LD.tellO, inT]
theorem LD.tellO_succ (S : LD) (j : Nat) (hi : ∀ x, x < j → S.T x ≠ S.T j) : (S.tellO j).setO (S.T j) (tld (S.O (S.T j)).hd) false = S.tellO (j + 1) := by
  have h0 : inT S.T j (S.T j) = false := by
    rw [Bool.eq_false_iff]; intro h; obtain ⟨x, hx, e⟩ := (inT_iff _ _ _).1 h; exact hi x hx e
  have e1 : ((S.tellO j).O (S.T j)).res = (S.O (S.T j)).res := by simp [LD.tellO, h0]
  unfold LD.setO
  rw [e1]
  show LD.mk S.N S.I S.m (fun x => if x = S.T j then ⟨(S.O (S.T j)).res, tld (S.O (S.T j)).hd⟩ else (S.tellO j).O x) (fun x => if x = S.T j then false else (S.tellO j).F x) S.B S.u S.T S.mv S.uv = _
  have eO : (fun x => if x = S.T j then (⟨(S.O (S.T j)).res, tld (S.O (S.T j)).hd⟩ : Lk) else (S.tellO j).O x) = (S.tellO (j + 1)).O := by
    funext x
    show _ = if inT S.T (j + 1) x then tldL (S.O x) else S.O x
    rw [inT_succ]
    by_cases e : x = S.T j
    · subst e; simp [tldL]
    · have e' : (S.T j == x) = false := by simp; exact fun h => e h.symm
      rw [if_neg e, e', Bool.or_false]; rfl
  have eF : (fun x => if x = S.T j then false else (S.tellO j).F x) = (S.tellO (j + 1)).F := by
    funext x
    show _ = if inT S.T (j + 1) x then false else S.F x
    rw [inT_succ]
    by_cases e : x = S.T j
    · subst e; simp
    · have e' : (S.T j == x) = false := by simp; exact fun h => e h.symm
      rw [if_neg e, e', Bool.or_false]; rfl
  rw [eO, eF]
  rfl

/-! ### the footprint -/
structure Foot (S : LD) (s B : Nat) : Prop where
  s : s < B
  b : ∀ i, i < S.m → S.B i < B
  m : ∀ mb, S.mv = some mb → mb < B
  u : ∀ g, S.uv.ownBlock = some g → g < B
theorem LS.foot {w : World} {base s : Nat} {S : LD} (h : LS w base s S) : Foot S s w.heap.size := ⟨h.lt, fun i hi => h.ltb hi, fun mb e => h.ltm e, fun g e => h.ltu e⟩
theorem LS.keep {w w' : World} {base s : Nat} {S : LD} (h : LS w base s S) {B : Nat} (f : Foot S s B) (e : ∀ x, x < B → w'.heap[x]? = w.heap[x]?) : LS w' base s S :=
  h.of_blocks (e _ f.s) (fun i hi => e _ (f.b i hi)) (fun mb h => e _ (f.m mb h)) (fun g h => e _ (f.u g h))

/-- one in-place lock is written -/
theorem LS.setI {w : World} {base s : Nat} {S : LD} (h : LS w base s S) {k : Nat} (hk : k < 4) (hd : due (S.I k) = true) : LS (w.setCell ⟨s, k * 9 + 5, none⟩ (.bool true)) base s (S.setS S.N (fun i => if i = k then tldL (S.I i) else S.I i)) := by
  have o : ∀ x, x ≠ k * 9 + 5 → (w.setCell ⟨s, k * 9 + 5, none⟩ (.bool true)).cell? ⟨s, x, none⟩ = w.cell? ⟨s, x, none⟩ := fun x hx => setCell_cell_other (.inr hx)
  refine h.setS (fun b hb => setCell_other (b := s) _ _ hb) (h.row.setCell _ _) h.hN (fun i hi => ?_) ((o _ (by omega)).trans h.cn) ((o _ (by omega)).trans h.cm) ((o _ (by omega)).trans h.cu)
  have hi' := h.ip i hi
  by_cases e : i = k
  · subst e
    rw [if_pos rfl, tldL_due hd]
    exact ⟨(o _ (by omega)).trans hi'.c0, (o _ (by omega)).trans hi'.c1, (o _ (by omega)).trans hi'.c2, (o _ (by omega)).trans hi'.c3, (o _ (by omega)).trans hi'.c4, setCell_cell_same h.row (by omega), (o _ (by omega)).trans hi'.c6, (o _ (by omega)).trans hi'.c7, (o _ (by omega)).trans hi'.c8⟩
  · rw [if_neg e]
    exact LkAt.of_range fun j hj => (o _ (by omega)).trans (hi'.range j hj)
theorem LD.tellI_due (S : LD) (k : Nat) : (S.tellI k).setS (S.tellI k).N (fun i => if i = k then tldL ((S.tellI k).I i) else (S.tellI k).I i) = S.tellI (k + 1) := by
  have e : (fun i => if i = k then tldL ((S.tellI k).I i) else (S.tellI k).I i) = (S.tellI (k + 1)).I := by
    funext i
    show (if i = k then tldL (if i < k then tldL (S.I i) else S.I i) else if i < k then tldL (S.I i) else S.I i) = if i < k + 1 then tldL (S.I i) else S.I i
    by_cases h : i = k
    · subst h; simp
    · rw [if_neg h]
      by_cases h' : i < k
      · rw [if_pos h', if_pos (by omega)]
      · rw [if_neg h', if_neg (by omega)]
  unfold LD.setS
  rw [e]
  rfl
theorem LD.tellI_not (S : LD) (k : Nat) (h : due (S.I k) = false) : S.tellI k = S.tellI (k + 1) := by
  have e : (S.tellI k).I = (S.tellI (k + 1)).I := by
    funext i
    show (if i < k then tldL (S.I i) else S.I i) = if i < k + 1 then tldL (S.I i) else S.I i
    by_cases h' : i < k
    · rw [if_pos h', if_pos (by omega)]
    · rw [if_neg h']
      by_cases h2 : i = k
      · subst h2; rw [if_pos (by omega), tldL_not_due h]
      · rw [if_neg (by omega)]
  show LD.mk S.N (S.tellI k).I S.m S.O S.F S.B S.u S.T S.mv S.uv = LD.mk S.N (S.tellI (k + 1)).I S.m S.O S.F S.B S.u S.T S.mv S.uv
  rw [e]
theorem LD.tellI_I (S : LD) (k : Nat) : (S.tellI k).I k = S.I k := by
  show (if k < k then tldL (S.I k) else S.I k) = S.I k
  simp

theorem LD.setO_setO (S : LD) (i : Nat) (h h' : Hold) (f f' : Bool) : (S.setO i h f).setO i h' f' = S.setO i h' f' := by
  have e1 : (fun x => if x = i then (⟨((S.setO i h f).O i).res, h'⟩ : Lk) else (S.setO i h f).O x) = (S.setO i h' f').O := by
    funext x
    show (if x = i then (⟨((S.setO i h f).O i).res, h'⟩ : Lk) else if x = i then ⟨(S.O i).res, h⟩ else S.O x) = if x = i then ⟨(S.O i).res, h'⟩ else S.O x
    rw [S.setO_res]
    split <;> rfl
  have e2 : (fun x => if x = i then f' else (S.setO i h f).F x) = (S.setO i h' f').F := by
    funext x
    show (if x = i then f' else if x = i then f else S.F x) = if x = i then f' else S.F x
    split <;> rfl
  show LD.mk S.N S.I S.m (fun x => if x = i then (⟨((S.setO i h f).O i).res, h'⟩ : Lk) else (S.setO i h f).O x) (fun x => if x = i then f' else (S.setO i h f).F x) S.B S.u S.T S.mv S.uv = LD.mk S.N S.I S.m (S.setO i h' f').O (S.setO i h' f').F S.B S.u S.T S.mv S.uv
  rw [e1, e2]
theorem LD.setO_O (S : LD) (i : Nat) (h : Hold) (f : Bool) : (S.setO i h f).O i = ⟨(S.O i).res, h⟩ := by simp [LD.setO]
theorem LD.setO_F (S : LD) (i : Nat) (h : Hold) (f : Bool) : (S.setO i h f).F i = f := by simp [LD.setO]
theorem LS.setFlag {w : World} {base s : Nat} {S : LD} (h : LS w base s S) {i : Nat} (hi : i < S.m) (f : Bool) : LS (w.setCell ⟨S.B i, 8, none⟩ (.bool f)) base s (S.setO i (S.O i).hd f) :=
  h.setO hi (fun x hx => setCell_other (b := S.B i) _ _ hx) ((h.orow i hi).setCell _ _) (HdAt.of_range fun j hj => (setCell_cell_other (.inr (by omega))).trans ((h.ohd i hi).range j hj)) (setCell_cell_same (h.orow i hi) (by omega))
theorem LS.setTold {w : World} {base s : Nat} {S : LD} (h : LS w base s S) {i : Nat} (hi : i < S.m) : LS (w.setCell ⟨S.B i, 4, none⟩ (.bool true)) base s (S.setO i { (S.O i).hd with tol := true } (S.F i)) := by
  have o : ∀ x, x ≠ 4 → (w.setCell ⟨S.B i, 4, none⟩ (.bool true)).cell? ⟨S.B i, x, none⟩ = w.cell? ⟨S.B i, x, none⟩ := fun x hx => setCell_cell_other (.inr hx)
  have hh := h.ohd i hi
  exact h.setO (hd := { (S.O i).hd with tol := true }) hi (fun x hx => setCell_other (b := S.B i) _ _ hx) ((h.orow i hi).setCell _ _)
    ⟨(o 0 (by omega)).trans hh.c0, (o 1 (by omega)).trans hh.c1, (o 2 (by omega)).trans hh.c2, (o 3 (by omega)).trans hh.c3, setCell_cell_same (o := 4) (h.orow i hi) (by omega), (o 5 (by omega)).trans hh.c5, (o 6 (by omega)).trans hh.c6, (o 7 (by omega)).trans hh.c7⟩
    ((o 8 (by omega)).trans (h.ofl i hi))
theorem LS.setLoc {w : World} {base s : Nat} {S : LD} (h : LS w base s S) {i : Nat} (hi : i < S.m) (l : Bool) : LS (w.setCell ⟨S.B i, 3, none⟩ (.bool l)) base s (S.setO i { (S.O i).hd with loc := l } (S.F i)) := by
  have o : ∀ x, x ≠ 3 → (w.setCell ⟨S.B i, 3, none⟩ (.bool l)).cell? ⟨S.B i, x, none⟩ = w.cell? ⟨S.B i, x, none⟩ := fun x hx => setCell_cell_other (.inr hx)
  have hh := h.ohd i hi
  exact h.setO (hd := { (S.O i).hd with loc := l }) hi (fun x hx => setCell_other (b := S.B i) _ _ hx) ((h.orow i hi).setCell _ _)
    ⟨(o 0 (by omega)).trans hh.c0, (o 1 (by omega)).trans hh.c1, (o 2 (by omega)).trans hh.c2, setCell_cell_same (o := 3) (h.orow i hi) (by omega), (o 4 (by omega)).trans hh.c4, (o 5 (by omega)).trans hh.c5, (o 6 (by omega)).trans hh.c6, (o 7 (by omega)).trans hh.c7⟩
    ((o 8 (by omega)).trans (h.ofl i hi))

/-! ### the untold list's cells -/
theorem flatMap_pair {α : Type} (f g : α → Value) : ∀ (l : List α) (j : Nat) (x : α), l[j]? = some x → (l.flatMap fun a => [f a, g a])[j * 2]? = some (f x) ∧ (l.flatMap fun a => [f a, g a])[j * 2 + 1]? = some (g x)
  | [], _, _, h => by simp at h
  | a :: r, 0, x, h => by
    simp only [List.getElem?_cons_zero, Option.some.injEq] at h
    subst h
    simp [List.flatMap_cons]
  | a :: r, j + 1, x, h => by
    have := flatMap_pair f g r j x (by simpa using h)
    rw [List.flatMap_cons]
    have e1 : (j + 1) * 2 = j * 2 + 2 := by omega
    have e2 : (j + 1) * 2 + 1 = (j * 2 + 1) + 2 := by omega
    rw [e2, e1]
    simpa using this
theorem LD.ucells_at (S : LD) {j : Nat} (hj : j < S.u) : S.ucells[j * 2]? = some (.string (S.O (S.T j)).res) ∧ S.ucells[j * 2 + 1]? = some (.pointer (some ⟨S.B (S.T j), 0, none⟩)) :=
  flatMap_pair (fun j => Value.string (S.O (S.T j)).res) (fun j => Value.pointer (some ⟨S.B (S.T j), 0, none⟩)) (List.range S.u) j j (by simp [hj])
theorem LS.uat {w : World} {base s : Nat} {S : LD} (h : LS w base s S) {j : Nat} (hj : j < S.u) : ∃ g cap, S.uv = .slice (some ⟨g, 0, none⟩) S.u cap ∧ w.cell? ⟨g, j * 2, none⟩ = some (.string (S.O (S.T j)).res) ∧ w.cell? ⟨g, j * 2 + 1, none⟩ = some (.pointer (some ⟨S.B (S.T j), 0, none⟩)) := by
  obtain ⟨g, cap, e, _⟩ := h.own.form (by omega)
  refine ⟨g, cap, e, ?_⟩
  have ho := h.own
  rw [e] at ho
  obtain ⟨h1, h2⟩ := S.ucells_at hj
  exact ⟨(ho.cellAt (j * 2) (by omega)).trans h1, (ho.cellAt (j * 2 + 1) (by omega)).trans h2⟩

/-! ### clear -/
theorem Try.zero87 : (Try.prog.info? 87).map (fun i => i.zero.map (fun z => z.cells)) = some (some #[.string ⟨#[]⟩, .pointer none]) := by kernel_rfl
theorem run_clear77 {w : World} {base u : Nat} {a : Option Addr} {cap : Nat} {xs : List Value} (h : w.ownsRow base 87 2 (.slice a u cap) u xs) (ty : TypeId) :
    ∃ w', (Builtin.clear_ #[77] ty #[.slice a u cap]).run Try.prog w = .ok (.tuple #[]) w' ∧ w'.ownsRow base 87 2 (.slice a 0 cap) 0 [] ∧ w.grownBy w' (Value.slice a u cap).ownBlock ∧ w'.heap.size = w.heap.size := by
  rcases h.2 with ⟨e, h0⟩ | ⟨g, cap', cur, e, hb, hh, hn, hm, hs, ht⟩
  · cases e
    refine ⟨w, ?_, World.ownsRow_nil _ _ _ _, ⟨rfl, rfl, rfl, Nat.le_refl _, fun _ _ _ => rfl⟩, rfl⟩
    simp [Builtin.clear_, run_underlying Try.underlying77]
  · cases e
    by_cases hu : u = 0
    · subst hu
      refine ⟨w, ?_, ⟨by simp, .inr ⟨g, cap, cur, rfl, hb, hh, Nat.zero_le _, hm, hs, by simp⟩⟩, ⟨rfl, rfl, rfl, Nat.le_refl _, fun _ _ _ => rfl⟩, rfl⟩
      simp [Builtin.clear_, run_underlying Try.underlying77]
    · obtain ⟨i, hi, hz⟩ := Option.map_eq_some_iff.1 Try.zero87
      obtain ⟨z, hz0, hz1⟩ := Option.map_eq_some_iff.1 hz
      have hrow : Row w g 87 (cap * 2) := ⟨cur, hh, hs⟩
      have hlen : (Builtin.zeroCells z.cells u).toList.length = u * 2 := by simp [Builtin.zeroCells, hz1]
      have hst := run_storeCells_cells (P := Try.prog) g 0 (Builtin.zeroCells z.cells u).toList 0 w
        (fun j hj => by
          rw [hlen] at hj
          obtain ⟨v, hv⟩ := hrow.ex (o := 0 + 0 + j) (by omega)
          rw [hv]; rfl)
        (fun j hj => hrow.fz _)
        (fun v hv => by
          simp only [Builtin.zeroCells, hz1, Array.toList_map, List.mem_map] at hv
          obtain ⟨x, _, rfl⟩ := hv
          have : x % 2 = 0 ∨ x % 2 = 1 := by omega
          rcases this with e | e <;> simp [e, Value.oneCell'])
      refine ⟨w.setCells g 0 (Builtin.zeroCells z.cells u).toList, ?_, ?_, ?_, setCells_size _ _ _ _⟩
      · obtain ⟨u', rfl⟩ : ∃ u', u = u' + 1 := ⟨u - 1, by omega⟩
        simp only [Nat.add_zero] at hst
        simp [Builtin.clear_, run_underlying Try.underlying77, zeroValue, typeInfo, hi, hz0, hst]
      · obtain ⟨cur', hh', hs'⟩ := hrow.setCells g (Builtin.zeroCells z.cells u).toList 0
        exact ⟨by simp, .inr ⟨g, cap, cur', rfl, hb, hh', Nat.zero_le _, hm, hs', by simp⟩⟩
      · have hB := Below.setCells' (B := 0) (a := w) g (Nat.zero_le _) (Builtin.zeroCells z.cells u).toList 0 w (Below.refl _ _)
        exact ⟨hB.os, hB.tape, hB.output, hB.size, fun k _ hk => setCells_other g _ _ _ k (fun e => hk (by rw [e]; rfl))⟩

end Go.Proofs.Qxb6605402a
