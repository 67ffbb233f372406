import Derived.Test.Qxb6605402aLs
import Derived.Deep.AppendLies
import Derived.Deep.RegionHeldLaw
namespace Go.Proofs.Qxb6605402a
open Go.RowKit Go.Maps
set_option linter.unusedVariables false
set_option linter.unusedSimpArgs false

theorem Try.info87 : (Try.prog.info? 87).map (fun i => (i.zero.map (·.cells.size), i.size, i.bytes)) = some (some 2, 2, 24) := by kernel_rfl
theorem Try.info68 : (Try.prog.info? 68).map (fun i => (i.zero.map (·.cells.size), i.size, i.bytes)) = some (some 2, 2, 32) := by kernel_rfl
theorem Try.info70 : (Try.prog.info? 70).map (fun i => (i.zero.map (·.cells.size), i.size, i.bytes)) = some (some 2, 2, 32) := by kernel_rfl

theorem news_pair {e : TypeId} {w : World} {g0 : Nat} {y0 y1 : Value} (hg : w.heap[g0]? = some (.cells #[y0, y1] e)) : ∀ (j : Nat) (u : Value), [y0, y1][j]? = some u → w.cell? ((⟨g0, 0, none⟩ : Addr).add j) = some u := by
  intro j u hu
  rw [Addr.add_mid, Nat.zero_add, cell_of_heap hg]
  match j, hu with
  | 0, hu => simpa using hu
  | 1, hu => simpa using hu
  | j + 2, hu => simp at hu

/-- 'append(v, {y0, y1})', the element of two cells -/
theorem wpList_app2 {t e : TypeId} {bytes : Nat} (ht : Try.prog.underlying t = some (.slice e)) (hinfo : (Try.prog.info? e).map (fun i => (i.zero.map (·.cells.size), i.size, i.bytes)) = some (some 2, 2, bytes)) (hby : bytes ≤ 64) {w : World} {ops : Array Oper} {rest : List Oper} {o : Oper} {a : Act} {Q : Exit → Act → World → Prop} (hgd : o.guard = none) (s x : Operand)
    (ho : o.op = .call { callee := .builtin .append, args := #[s, x], argTypes := #[t, t] })
    (base : Nat) (v : Value) (n : Nat) (xs : List Value) (hs : a.eval s = v) (hown : w.ownsRow base e 2 v n xs)
    (g0 : Nat) (y0 y1 : Value) (hy0 : y0.oneCell' = true) (hy1 : y1.oneCell' = true) (hx : a.eval x = .slice (some ⟨g0, 0, none⟩) 1 1) (hg : w.heap[g0]? = some (.cells #[y0, y1] e))
    (hn : n ≤ 16384) (hbase : base ≤ w.heap.size)
    (h : ∀ g cap w', w'.ownsRow base e 2 (.slice (some ⟨g, 0, none⟩) (n + 1) cap) (n + 1) (xs ++ [y0, y1]) → w.grownBy w' v.ownBlock → (v.ownBlock = some g ∨ g = w.heap.size) → g < w'.heap.size → wpList Try.prog ops Q rest (a.put o.dst (.slice (some ⟨g, 0, none⟩) (n + 1) cap)) w') : wpList Try.prog ops Q (o :: rest) a w := by
  obtain ⟨i, hi, hzz⟩ := Option.map_eq_some_iff.1 hinfo
  simp only [Prod.mk.injEq, Option.map_eq_some_iff] at hzz
  obtain ⟨⟨z, hz, hzc⟩, hsz, hbb⟩ := hzz
  exact wpList_append_lies w hgd s x t ho base e i z 2 bytes ht hi hz hsz hbb hzc (by omega) v n xs hs hown ⟨g0, 0, none⟩ 1 1 [y0, y1] hx rfl (news_pair hg) (by simp [hy0, hy1]) (by omega) (by unfold maxLen; omega) (by
    have : (n + 1) * bytes ≤ 16385 * 64 := Nat.mul_le_mul (by omega) hby
    omega) hbase _ rfl h
theorem step_app2 {t e : TypeId} {bytes : Nat} (ht : Try.prog.underlying t = some (.slice e)) (hinfo : (Try.prog.info? e).map (fun i => (i.zero.map (·.cells.size), i.size, i.bytes)) = some (some 2, 2, bytes)) (hby : bytes ≤ 64) {w : World} {ops : Array Oper} {o : Oper} {a : Act} {K : Act → World → Prop} {Q : Exit → Act → World → Prop} {E : Prop} (hgd : o.guard = none) (s x : Operand)
    (ho : o.op = .call { callee := .builtin .append, args := #[s, x], argTypes := #[t, t] })
    (base : Nat) (v : Value) (n : Nat) (xs : List Value) (hs : a.eval s = v) (hown : w.ownsRow base e 2 v n xs)
    (g0 : Nat) (y0 y1 : Value) (hy0 : y0.oneCell' = true) (hy1 : y1.oneCell' = true) (hx : a.eval x = .slice (some ⟨g0, 0, none⟩) 1 1) (hg : w.heap[g0]? = some (.cells #[y0, y1] e))
    (hn : n ≤ 16384) (hbase : base ≤ w.heap.size)
    (h : ∀ g cap w', w'.ownsRow base e 2 (.slice (some ⟨g, 0, none⟩) (n + 1) cap) (n + 1) (xs ++ [y0, y1]) → w.grownBy w' v.ownBlock → (v.ownBlock = some g ∨ g = w.heap.size) → g < w'.heap.size → K (a.put o.dst (.slice (some ⟨g, 0, none⟩) (n + 1) cap)) w') :
    if Region.wanted o (yielded ops a.tmps) = true then Oper.wp Try.prog o a w K Q else E := by
  obtain ⟨i, hi, hzz⟩ := Option.map_eq_some_iff.1 hinfo
  simp only [Prod.mk.injEq, Option.map_eq_some_iff] at hzz
  obtain ⟨⟨z, hz, hzc⟩, hsz, hbb⟩ := hzz
  exact step_append_lies w hgd s x t ho base e i z 2 bytes ht hi hz hsz hbb hzc (by omega) v n xs hs hown ⟨g0, 0, none⟩ 1 1 [y0, y1] hx rfl (news_pair hg) (by simp [hy0, hy1]) (by omega) (by unfold maxLen; omega) (by
    have : (n + 1) * bytes ≤ 16385 * 64 := Nat.mul_le_mul (by omega) hby
    omega) hbase _ rfl h
theorem heap_newE (w : World) (o : Obj) (n : Nat) (h : n = w.heap.size) : (w.alloc o).heap[n]? = some o := by subst h; exact heap_new w o
theorem setCell_cell_other {w : World} {b o b' o' : Nat} {v : Value} (h : b' ≠ b ∨ o' ≠ o) : (w.setCell ⟨b, o, none⟩ v).cell? ⟨b', o', none⟩ = w.cell? ⟨b', o', none⟩ :=
  World.cell?_setCell_other _ _ _ _ (fun e => by simp at e; rcases h with h | h; exact h e.1.symm; exact h e.2.symm)
theorem setCell_cell_same {w : World} {b o t n : Nat} {v : Value} (h : Row w b t n) (ho : o < n) : (w.setCell ⟨b, o, none⟩ v).cell? ⟨b, o, none⟩ = some v := by
  obtain ⟨x, hx⟩ := h.ex ho
  exact World.cell?_setCell_same _ _ _ hx
theorem LD.setU_ucells (S : LD) {T' : Nat → Nat} {i : Nat} {uv : Value} (hT : ∀ j, j < S.u → T' j = S.T j) (hTi : T' S.u = i) : (S.setU (S.u + 1) T' uv).ucells = S.ucells ++ [.string (S.O i).res, .pointer (some ⟨S.B i, 0, none⟩)] := by
  show (List.range (S.u + 1)).flatMap (fun j => [Value.string (S.O (T' j)).res, Value.pointer (some ⟨S.B (T' j), 0, none⟩)]) = _
  rw [List.range_succ, List.flatMap_append, List.flatMap_singleton, hTi]
  congr 1
  exact flatMap_congr _ _ _ fun j hj => by rw [hT j (List.mem_range.1 hj)]
theorem LS.pushU {w w' : World} {base s : Nat} {S : LD} (h : LS w base s S) {i : Nat} (hi : i < S.m) {g cap : Nat} (hown : w'.ownsRow base 87 2 (.slice (some ⟨g, 0, none⟩) (S.u + 1) cap) (S.u + 1) (S.ucells ++ [.string (S.O i).res, .pointer (some ⟨S.B i, 0, none⟩)]))
    (hg : w.grownBy w' S.uv.ownBlock) (hat : S.uv.ownBlock = some g ∨ g = w.heap.size) (hu8 : S.u < 8192) {T' : Nat → Nat} (hT : ∀ j, j < S.u → T' j = S.T j) (hTi : T' S.u = i) :
    LS (w'.setCell ⟨s, 38, none⟩ (.slice (some ⟨g, 0, none⟩) (S.u + 1) cap)) base s (S.setU (S.u + 1) T' (.slice (some ⟨g, 0, none⟩) (S.u + 1) cap)) := by
  have hlt := h.lt
  have es : w'.heap[s]? = w.heap[s]? := hg.block s hlt (fun e => h.u_ne_s e.symm)
  have gs : g ≠ s := by
    rcases hat with e | e
    · intro e'; exact h.u_ne_s (by rw [e, e'])
    · omega
  have hr : Row w' s 79 39 := h.row.of_block es
  have eb : ∀ x, x < w.heap.size → x ≠ s → some x ≠ S.uv.ownBlock → (w'.setCell ⟨s, 38, none⟩ (.slice (some ⟨g, 0, none⟩) (S.u + 1) cap)).heap[x]? = w.heap[x]? := fun x hx hne hno =>
    (setCell_other (b := s) _ _ hne).trans (hg.block x hx hno)
  refine h.setU (fun o ho => (setCell_cell_other (.inr (by omega))).trans (cell_of_block es)) (hr.setCell _ _) (fun j hj => eb _ (h.ltb hj) (h.b_ne_s hj) (fun e => h.u_ne_b hj e.symm)) (fun mb e => ?_) (by omega) (fun j hj => ?_) (setCell_cell_same hr (by omega)) ?_
  · refine eb _ (h.ltm e) (h.mv_ne_row e h.row) (fun e' => ?_)
    obtain ⟨n, hr', _⟩ := h.ublock e'.symm
    exact h.mv_ne_row e hr' rfl
  · by_cases e : j = S.u
    · subst e; rw [hTi]; exact hi
    · rw [hT j (by omega)]; exact h.tlt j (by omega)
  · rw [S.setU_ucells hT hTi]
    exact ownsRow_of_block hown (fun x hx => by cases hx; exact setCell_other (b := s) _ _ gs)

end Go.Proofs.Qxb6605402a
