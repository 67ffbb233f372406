import Derived.Test.Qxb6605442aBase
import Derived.Deep.RegionHeld3
namespace Go.Proofs.Qxb6605442a
open Go.RowKit
set_option linter.unusedVariables false
set_option linter.unusedSimpArgs false

/-- Bools in a slice, read. -/
def BoAt (w : World) (a : Option Addr) (n : Nat) (f : Nat → Bool) : Prop := ∀ i, i < n → ∃ b o, a = some ⟨b, o, none⟩ ∧ b < w.heap.size ∧ w.cell? ⟨b, o + i, none⟩ = some (.bool (f i))
theorem BoAt.below {w w' : World} {a : Option Addr} {n : Nat} {f : Nat → Bool} (h : BoAt w a n f) (hb : Below w.heap.size w w') : BoAt w' a n f := fun i hi => by
  obtain ⟨b, o, e, hlt, hk⟩ := h i hi
  exact ⟨b, o, e, Nat.lt_of_lt_of_le hlt hb.size, (hb.cell (p := ⟨b, o + i, none⟩) hlt).trans hk⟩
def cb (n : Nat) (f : Nat → Bool) : List Value := (List.range n).map fun i => Value.bool (f i)
theorem len_cb (n : Nat) (f : Nat → Bool) : (cb n f).length = n := by simp [cb]
theorem get_cb (n : Nat) (f : Nat → Bool) {i : Nat} (h : i < n) : (cb n f)[i]? = some (.bool (f i)) := by simp [cb, h]
theorem one_cb (n : Nat) (f : Nat → Bool) : ∀ v ∈ cb n f, v.oneCell' = true := by
  intro v hv
  simp only [cb, List.mem_map] at hv
  obtain ⟨i, _, rfl⟩ := hv
  rfl
theorem lt_of_getb {n : Nat} {f : Nat → Bool} {i : Nat} {v : Value} (h : (cb n f)[i]? = some v) : i < n ∧ v = .bool (f i) := by
  have : i < (cb n f).length := by
    rcases Nat.lt_or_ge i (cb n f).length with h' | h'
    · exact h'
    · rw [List.getElem?_eq_none h'] at h; cases h
  rw [len_cb] at this
  rw [get_cb n f this] at h
  exact ⟨this, (Option.some.inj h).symm⟩
theorem src_ofb {w : World} {a : Option Addr} {n : Nat} {f : Nat → Bool} (hL : BoAt w a n f) : 0 < n → ∃ b o, a = some ⟨b, o, none⟩ ∧ b < w.heap.size ∧ ∀ j v, (cb n f)[j]? = some v → w.cell? ⟨b, o + j, none⟩ = some v := fun hp => by
  obtain ⟨b, o, e, hlt, _⟩ := hL 0 hp
  refine ⟨b, o, e, hlt, fun j v hj => ?_⟩
  obtain ⟨hjn, rfl⟩ := lt_of_getb hj
  obtain ⟨b', o', e', hlt', hc⟩ := hL j hjn
  rw [e] at e'
  cases e'
  exact hc
theorem heap_lt {w : World} {b : Nat} {x : Obj} (h : w.heap[b]? = some x) : b < w.heap.size := (Array.getElem?_eq_some_iff.1 h).1
theorem BtAt.of_row {k : IntKind} {e : TypeId} {w : World} {g n : Nat} {f : Nat → Int} (hg : w.heap[g]? = some (.cells (cs k n f).toArray e (0, 0))) : BtAt k w (some ⟨g, 0, none⟩) n f := fun i hi =>
  ⟨g, 0, rfl, heap_lt hg, by rw [cell_of_heap hg, Nat.zero_add]; simpa using get_cs k n f hi⟩
theorem BoAt.of_row {e : TypeId} {w : World} {g n : Nat} {f : Nat → Bool} (hg : w.heap[g]? = some (.cells (cb n f).toArray e (0, 0))) : BoAt w (some ⟨g, 0, none⟩) n f := fun i hi =>
  ⟨g, 0, rfl, heap_lt hg, by rw [cell_of_heap hg, Nat.zero_add]; simpa using get_cb n f hi⟩

theorem Try.sz3 : (Try.prog.info? 3).map (fun i => (i.zero.map (·.cells.size), i.size, i.bytes)) = some (some 1, 1, 8) := by kernel_rfl
theorem Try.size3 : (Try.prog.info? 3).map (·.size) = some 1 := by kernel_rfl
theorem Try.sz34 : (Try.prog.info? 34).map (fun i => (i.zero.map (·.cells.size), i.size, i.bytes)) = some (some 1, 1, 4) := by kernel_rfl
theorem Try.size34 : (Try.prog.info? 34).map (·.size) = some 1 := by kernel_rfl
theorem Try.sz4 : (Try.prog.info? 4).map (fun i => (i.zero.map (·.cells.size), i.size, i.bytes)) = some (some 1, 1, 1) := by kernel_rfl
theorem Try.size4 : (Try.prog.info? 4).map (·.size) = some 1 := by kernel_rfl
theorem Try.sz63 : (Try.prog.info? 63).map (fun i => (i.zero.map (·.cells.size), i.size, i.bytes)) = some (some 4, 4, 32) := by kernel_rfl
theorem Try.sz65 : (Try.prog.info? 65).map (fun i => (i.zero.map (·.cells.size), i.size, i.bytes)) = some (some 10, 10, 72) := by kernel_rfl

set_option maxHeartbeats 1000000 in
theorem clone14 (a : Option Addr) (n cap : Nat) (f : Nat → Int) (w : World) (hn : n ≤ 1048576) (hL : BtAt .i64 w a n f)
    (R : Ending → World → Prop) (hR : ∀ a' cap' w', BtAt .i64 w' a' n f → Below w.heap.size w w' → R (.returned (.slice a' n cap')) w') :
    Calls Try.prog 14 #[.slice a n cap] w R := by
  obtain ⟨c0, hc0, hmk⟩ := make_any Try.underlying30 Try.sz3 n (by omega) (by omega)
  have heq := fun (w : World) (a : Option Addr) (l c : Nat) => Lib.run_eql_slice_nil (P := Try.prog) w 30 3 a l c 0 0 Try.underlying30
  rcases a with _ | ad
  · have hn0 : n = 0 := by
      by_cases h : 0 < n
      · obtain ⟨b, o, e, _⟩ := hL 0 h; cases e
      · omega
    subst hn0
    go_enter Try.func14, Try.ntmps14
    go_wp2
    exact hR none 0 _ (fun i hi => by omega) (Below.refl _ _)
  · obtain ⟨l0, rfl⟩ : ∃ l : List Value, c0 = l.toArray := ⟨c0.toList, by simp⟩
    obtain ⟨w2, hcp, hg, hb⟩ := copy_whole Try.underlying30 Try.size3 (one_cs .i64 n f) (some ad) n cap (len_cs _ _ _) w (src_of hL) l0 (by simpa using hc0)
    have HG := hide hg
    clear hg hL
    go_enter Try.func14, Try.ntmps14
    go_wp2
    exact hR _ _ _ (BtAt.of_row (unhide HG)) hb

set_option maxHeartbeats 1000000 in
theorem clone15 (a : Option Addr) (n cap : Nat) (f : Nat → Int) (w : World) (hn : n ≤ 1048576) (hL : BtAt .u32 w a n f)
    (R : Ending → World → Prop) (hR : ∀ a' cap' w', BtAt .u32 w' a' n f → Below w.heap.size w w' → n ≤ cap' → R (.returned (.slice a' n cap')) w') :
    Calls Try.prog 15 #[.slice a n cap] w R := by
  obtain ⟨c0, hc0, hmk⟩ := make_any Try.underlying31 Try.sz34 n (by omega) (by omega)
  have heq := fun (w : World) (a : Option Addr) (l c : Nat) => Lib.run_eql_slice_nil (P := Try.prog) w 31 34 a l c 0 0 Try.underlying31
  rcases a with _ | ad
  · have hn0 : n = 0 := by
      by_cases h : 0 < n
      · obtain ⟨b, o, e, _⟩ := hL 0 h; cases e
      · omega
    subst hn0
    go_enter Try.func15, Try.ntmps15
    go_wp2
    exact hR none 0 _ (fun i hi => by omega) (Below.refl _ _) (Nat.le_refl _)
  · obtain ⟨l0, rfl⟩ : ∃ l : List Value, c0 = l.toArray := ⟨c0.toList, by simp⟩
    obtain ⟨w2, hcp, hg, hb⟩ := copy_whole Try.underlying31 Try.size34 (one_cs .u32 n f) (some ad) n cap (len_cs _ _ _) w (src_of hL) l0 (by simpa using hc0)
    have HG := hide hg
    clear hg hL
    go_enter Try.func15, Try.ntmps15
    go_wp2
    exact hR _ _ _ (BtAt.of_row (unhide HG)) hb (Nat.le_refl _)

set_option maxHeartbeats 1000000 in
theorem clone16 (a : Option Addr) (n cap : Nat) (f : Nat → Bool) (w : World) (hn : n ≤ 1048576) (hL : BoAt w a n f)
    (R : Ending → World → Prop) (hR : ∀ a' cap' w', BoAt w' a' n f → Below w.heap.size w w' → R (.returned (.slice a' n cap')) w') :
    Calls Try.prog 16 #[.slice a n cap] w R := by
  obtain ⟨c0, hc0, hmk⟩ := make_any Try.underlying32 Try.sz4 n (by omega) (by omega)
  have heq := fun (w : World) (a : Option Addr) (l c : Nat) => Lib.run_eql_slice_nil (P := Try.prog) w 32 4 a l c 0 0 Try.underlying32
  rcases a with _ | ad
  · have hn0 : n = 0 := by
      by_cases h : 0 < n
      · obtain ⟨b, o, e, _⟩ := hL 0 h; cases e
      · omega
    subst hn0
    go_enter Try.func16, Try.ntmps16
    go_wp2
    exact hR none 0 _ (fun i hi => by omega) (Below.refl _ _)
  · obtain ⟨l0, rfl⟩ : ∃ l : List Value, c0 = l.toArray := ⟨c0.toList, by simp⟩
    obtain ⟨w2, hcp, hg, hb⟩ := copy_whole Try.underlying32 Try.size4 (one_cb n f) (some ad) n cap (len_cb _ _) w (src_ofb hL) l0 (by simpa using hc0)
    have HG := hide hg
    clear hg hL
    go_enter Try.func16, Try.ntmps16
    go_wp2
    exact hR _ _ _ (BoAt.of_row (unhide HG)) hb

/-! ### rows that are written -/
theorem frz_of_row {w : World} {b : Nat} {cs : Array Value} {t : TypeId} (h : w.heap[b]? = some (.cells cs t)) (o : Nat) : w.frozen? ⟨b, o, none⟩ = false := frozen_of_row w b o cs t h
/-- Block b is a row of n cells of type t, none frozen. -/
def Row (w : World) (b : Nat) (t : TypeId) (n : Nat) : Prop := ∃ cs : Array Value, w.heap[b]? = some (.cells cs t) ∧ cs.size = n
theorem Row.fz {w : World} {b t n : Nat} (h : Row w b t n) (o : Nat) : w.frozen? ⟨b, o, none⟩ = false := by
  obtain ⟨cs, h, _⟩ := h; exact frz_of_row h o
theorem Row.ex {w : World} {b t n : Nat} (h : Row w b t n) {o : Nat} (ho : o < n) : ∃ v, w.cell? ⟨b, o, none⟩ = some v := by
  obtain ⟨cs, h, hs⟩ := h
  exact ⟨cs[o], by rw [cell_of_heap h]; exact Array.getElem?_eq_getElem (by omega)⟩
theorem Row.lt {w : World} {b t n : Nat} (h : Row w b t n) : b < w.heap.size := by
  obtain ⟨cs, h, hs⟩ := h; exact heap_lt h
theorem Row.of_block {w w' : World} {b t n : Nat} (h : Row w b t n) (e : w'.heap[b]? = w.heap[b]?) : Row w' b t n := by
  obtain ⟨cs, h, hs⟩ := h; exact ⟨cs, e.trans h, hs⟩
theorem setCell_other {w : World} {i : Nat} (a : Addr) (v : Value) (h : i ≠ a.block) : (w.setCell a v).heap[i]? = w.heap[i]? := Below.heap_setCell w a v i h
theorem Row.setCell {w : World} {b t n : Nat} (h : Row w b t n) (a : Addr) (v : Value) : Row (w.setCell a v) b t n := by
  by_cases e : b = a.block
  · obtain ⟨cs, h, hs⟩ := h
    refine ⟨if a.spot.isSome then cs else cs.setIfInBounds a.off v, ?_, by split <;> simp [hs]⟩
    subst e
    simp only [World.setCell, Array.getElem?_modify, if_true, h, Option.map_some]
  · exact h.of_block (setCell_other a v e)
theorem cell_other {w : World} {b o b' o' : Nat} {v : Value} (h : b' ≠ b ∨ o' ≠ o) : (w.setCell ⟨b, o, none⟩ v).cell? ⟨b', o', none⟩ = w.cell? ⟨b', o', none⟩ :=
  World.cell?_setCell_other _ _ _ _ (fun e => by simp at e; rcases h with h | h; exact h e.1.symm; exact h e.2.symm)
theorem cell_same {w : World} {b o t n : Nat} {v : Value} (h : Row w b t n) (ho : o < n) : (w.setCell ⟨b, o, none⟩ v).cell? ⟨b, o, none⟩ = some v := by
  obtain ⟨x, hx⟩ := h.ex ho
  exact World.cell?_setCell_same _ _ _ hx
theorem cell_blk {w w' : World} {b o : Nat} (e : w'.heap[b]? = w.heap[b]?) : w'.cell? ⟨b, o, none⟩ = w.cell? ⟨b, o, none⟩ := World.cell?_of_block (w := w) (a := ⟨b, o, none⟩) e

/-- The walk's joins, nj of them laid. -/
structure JK (w : World) (s jb J : Nat) (cnt lj : Int) (nj : Nat) (T : Nat → Int) : Prop where
  row : Row w s 61 30
  rj : Row w jb 63 (J * 4)
  cj : w.cell? ⟨s, 12, none⟩ = some (.slice (some ⟨jb, 0, none⟩) J J)
  cc : w.cell? ⟨s, 13, none⟩ = some (.int .i64 cnt)
  cl : w.cell? ⟨s, 18, none⟩ = some (.int .i64 lj)
  t : ∀ i, i < nj → w.cell? ⟨jb, i * 4 + 3, none⟩ = some (.int .i64 (T i))
  ne : s ≠ jb
/-- The walk's locals, nl of them laid. -/
structure LK (w : World) (s lb K : Nat) (ia : Option Addr) (il ic nl : Nat) (tq th : Nat → Int) (jo : Nat → Bool) : Prop where
  row : Row w s 61 30
  rl : Row w lb 65 (K * 10)
  clo : w.cell? ⟨s, 20, none⟩ = some (.slice (some ⟨lb, 0, none⟩) K K)
  ci : w.cell? ⟨s, 26, none⟩ = some (.slice ia il ic)
  a : ∀ k, k < nl → w.cell? ⟨lb, k * 10 + 6, none⟩ = some (.int .i64 (tq k))
  h : ∀ k, k < nl → w.cell? ⟨lb, k * 10 + 7, none⟩ = some (.int .i64 (th k))
  j : ∀ k, k < nl → w.cell? ⟨lb, k * 10 + 9, none⟩ = some (.bool (jo k))
  ne : s ≠ lb
theorem JK.keep {w w' : World} {s jb J : Nat} {cnt lj : Int} {nj : Nat} {T : Nat → Int} (h : JK w s jb J cnt lj nj T) (hs : w'.heap[s]? = w.heap[s]?) (hj : w'.heap[jb]? = w.heap[jb]?) : JK w' s jb J cnt lj nj T :=
  ⟨h.row.of_block hs, h.rj.of_block hj, (cell_blk hs).trans h.cj, (cell_blk hs).trans h.cc, (cell_blk hs).trans h.cl, fun i hi => (cell_blk hj).trans (h.t i hi), h.ne⟩
theorem LK.keep {w w' : World} {s lb K : Nat} {ia : Option Addr} {il ic nl : Nat} {tq th : Nat → Int} {jo : Nat → Bool} (h : LK w s lb K ia il ic nl tq th jo) (hs : w'.heap[s]? = w.heap[s]?) (hj : w'.heap[lb]? = w.heap[lb]?) : LK w' s lb K ia il ic nl tq th jo :=
  ⟨h.row.of_block hs, h.rl.of_block hj, (cell_blk hs).trans h.clo, (cell_blk hs).trans h.ci, fun i hi => (cell_blk hj).trans (h.a i hi), fun i hi => (cell_blk hj).trans (h.h i hi), fun i hi => (cell_blk hj).trans (h.j i hi), h.ne⟩
theorem JK.put {w : World} {s jb J : Nat} {cnt lj : Int} {nj : Nat} {T : Nat → Int} (h : JK w s jb J cnt lj nj T) {i : Nat} (hi : i < J) (v : Int) {nj' : Nat} {T' : Nat → Int} (h1 : ∀ j, j < nj' → j ≠ i → j < nj ∧ T' j = T j) (h2 : T' i = v) : JK (w.setCell ⟨jb, i * 4 + 3, none⟩ (.int .i64 v)) s jb J cnt lj nj' T' := by
  have hs : (w.setCell ⟨jb, i * 4 + 3, none⟩ (.int .i64 v)).heap[s]? = w.heap[s]? := setCell_other _ _ h.ne
  refine ⟨h.row.of_block hs, h.rj.setCell _ _, (cell_blk hs).trans h.cj, (cell_blk hs).trans h.cc, (cell_blk hs).trans h.cl, fun j hj => ?_, h.ne⟩
  by_cases e : j = i
  · subst e; rw [h2]; exact cell_same h.rj (by omega)
  · rw [cell_other (.inr (by omega)), h.t j (h1 j hj e).1, (h1 j hj e).2]
/-- a store tq one of a local's cells -/
theorem LK.putA {w : World} {s lb K : Nat} {ia : Option Addr} {il ic nl : Nat} {tq th : Nat → Int} {jo : Nat → Bool} (h : LK w s lb K ia il ic nl tq th jo) {x : Nat} (hx : x < K) (v : Int) : LK (w.setCell ⟨lb, x * 10 + 6, none⟩ (.int .i64 v)) s lb K ia il ic nl (fun k => if k = x then v else tq k) th jo := by
  have hs : (w.setCell ⟨lb, x * 10 + 6, none⟩ (.int .i64 v)).heap[s]? = w.heap[s]? := setCell_other _ _ h.ne
  refine ⟨h.row.of_block hs, h.rl.setCell _ _, (cell_blk hs).trans h.clo, (cell_blk hs).trans h.ci, fun j hj => ?_, fun j hj => (cell_other (.inr (by omega))).trans (h.h j hj), fun j hj => (cell_other (.inr (by omega))).trans (h.j j hj), h.ne⟩
  by_cases e : j = x
  · subst e; simp only [if_true]; exact cell_same h.rl (by omega)
  · simp only [if_neg e]; exact (cell_other (.inr (by omega))).trans (h.a j hj)
theorem LK.putH {w : World} {s lb K : Nat} {ia : Option Addr} {il ic nl : Nat} {tq th : Nat → Int} {jo : Nat → Bool} (h : LK w s lb K ia il ic nl tq th jo) {x : Nat} (hx : x < K) (v : Int) : LK (w.setCell ⟨lb, x * 10 + 7, none⟩ (.int .i64 v)) s lb K ia il ic nl tq (fun k => if k = x then v else th k) jo := by
  have hs : (w.setCell ⟨lb, x * 10 + 7, none⟩ (.int .i64 v)).heap[s]? = w.heap[s]? := setCell_other _ _ h.ne
  refine ⟨h.row.of_block hs, h.rl.setCell _ _, (cell_blk hs).trans h.clo, (cell_blk hs).trans h.ci, fun j hj => (cell_other (.inr (by omega))).trans (h.a j hj), fun j hj => ?_, fun j hj => (cell_other (.inr (by omega))).trans (h.j j hj), h.ne⟩
  by_cases e : j = x
  · subst e; simp only [if_true]; exact cell_same h.rl (by omega)
  · simp only [if_neg e]; exact (cell_other (.inr (by omega))).trans (h.h j hj)
theorem LK.putJ {w : World} {s lb K : Nat} {ia : Option Addr} {il ic nl : Nat} {tq th : Nat → Int} {jo : Nat → Bool} (h : LK w s lb K ia il ic nl tq th jo) {x : Nat} (hx : x < K) (v : Bool) : LK (w.setCell ⟨lb, x * 10 + 9, none⟩ (.bool v)) s lb K ia il ic nl tq th (fun k => if k = x then v else jo k) := by
  have hs : (w.setCell ⟨lb, x * 10 + 9, none⟩ (.bool v)).heap[s]? = w.heap[s]? := setCell_other _ _ h.ne
  refine ⟨h.row.of_block hs, h.rl.setCell _ _, (cell_blk hs).trans h.clo, (cell_blk hs).trans h.ci, fun j hj => (cell_other (.inr (by omega))).trans (h.a j hj), fun j hj => (cell_other (.inr (by omega))).trans (h.h j hj), fun j hj => ?_, h.ne⟩
  by_cases e : j = x
  · subst e; simp only [if_true]; exact cell_same h.rl (by omega)
  · simp only [if_neg e]; exact (cell_other (.inr (by omega))).trans (h.j j hj)
/-- a new local is laid -/
theorem LK.more {w : World} {s lb K : Nat} {ia : Option Addr} {il ic nl : Nat} {tq th : Nat → Int} {jo : Nat → Bool} (h : LK w s lb K ia il ic nl tq th jo) (hx : nl < K) (v v2 : Int) (v3 : Bool) (e1 : tq nl = v) (e2 : th nl = v2) (e3 : jo nl = v3) :
    LK (((w.setCell ⟨lb, nl * 10 + 6, none⟩ (.int .i64 v)).setCell ⟨lb, nl * 10 + 7, none⟩ (.int .i64 v2)).setCell ⟨lb, nl * 10 + 9, none⟩ (.bool v3)) s lb K ia il ic (nl + 1) tq th jo := by
  have k := ((h.putA hx v).putH hx v2).putJ hx v3
  have r0 := h.rl
  have r1 := h.rl.setCell ⟨lb, nl * 10 + 6, none⟩ (.int .i64 v)
  have r2 := r1.setCell ⟨lb, nl * 10 + 7, none⟩ (.int .i64 v2)
  refine ⟨k.row, k.rl, k.clo, k.ci, fun j hj => ?_, fun j hj => ?_, fun j hj => ?_, k.ne⟩
  · by_cases e : j = nl
    · subst e; rw [e1, cell_other (.inr (by omega)), cell_other (.inr (by omega))]; exact cell_same r0 (by omega)
    · rw [cell_other (.inr (by omega)), cell_other (.inr (by omega)), cell_other (.inr (by omega))]; exact h.a j (by omega)
  · by_cases e : j = nl
    · subst e; rw [e2, cell_other (.inr (by omega))]; exact cell_same r1 (by omega)
    · rw [cell_other (.inr (by omega)), cell_other (.inr (by omega)), cell_other (.inr (by omega))]; exact h.h j (by omega)
  · by_cases e : j = nl
    · subst e; rw [e3]; exact cell_same r2 (by omega)
    · rw [cell_other (.inr (by omega)), cell_other (.inr (by omega)), cell_other (.inr (by omega))]; exact h.j j (by omega)

end Go.Proofs.Qxb6605442a
