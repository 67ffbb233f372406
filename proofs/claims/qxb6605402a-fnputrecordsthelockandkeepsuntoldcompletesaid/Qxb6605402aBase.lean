import Derived.Test.Qxb6605402aRows
import Derived.WalkKit
import Derived.WalkSpells
import Derived.WalkLawsBesides
import Derived.Deep.QuietTactic
import Derived.BigQuiet
import Derived.Deep.LoopGhost
import Derived.Deep.DeepCutAuto
import Derived.Deep.MidRow
import Derived.Deep.OwnRows
namespace Go.Proofs.Qxb6605402a
open Go.RowKit
set_option linter.unusedVariables false
set_option linter.unusedSimpArgs false

/-- A holding, in plain data. -/
structure Hold where
  mode : ByteArray
  ver : Int
  cdr : Bool
  loc : Bool
  tol : Bool
  wri : Bool
  tok : Int
  sqn : Int
/-- A lock: its resource and how it is held. -/
structure Lk where
  res : ByteArray
  hd : Hold

/-- A holding's eight cells from offset o of block b on. -/
structure HdAt (w : World) (b o : Nat) (h : Hold) : Prop where
  c0 : w.cell? ⟨b, o, none⟩ = some (.string h.mode)
  c1 : w.cell? ⟨b, o + 1, none⟩ = some (.int .u64 h.ver)
  c2 : w.cell? ⟨b, o + 2, none⟩ = some (.bool h.cdr)
  c3 : w.cell? ⟨b, o + 3, none⟩ = some (.bool h.loc)
  c4 : w.cell? ⟨b, o + 4, none⟩ = some (.bool h.tol)
  c5 : w.cell? ⟨b, o + 5, none⟩ = some (.bool h.wri)
  c6 : w.cell? ⟨b, o + 6, none⟩ = some (.int .u64 h.tok)
  c7 : w.cell? ⟨b, o + 7, none⟩ = some (.int .u64 h.sqn)

/-- A lock's nine cells from offset o of block b on. -/
structure LkAt (w : World) (b o : Nat) (l : Lk) : Prop where
  c0 : w.cell? ⟨b, o, none⟩ = some (.string l.res)
  c1 : w.cell? ⟨b, o + 1, none⟩ = some (.string l.hd.mode)
  c2 : w.cell? ⟨b, o + 2, none⟩ = some (.int .u64 l.hd.ver)
  c3 : w.cell? ⟨b, o + 3, none⟩ = some (.bool l.hd.cdr)
  c4 : w.cell? ⟨b, o + 4, none⟩ = some (.bool l.hd.loc)
  c5 : w.cell? ⟨b, o + 5, none⟩ = some (.bool l.hd.tol)
  c6 : w.cell? ⟨b, o + 6, none⟩ = some (.bool l.hd.wri)
  c7 : w.cell? ⟨b, o + 7, none⟩ = some (.int .u64 l.hd.tok)
  c8 : w.cell? ⟨b, o + 8, none⟩ = some (.int .u64 l.hd.sqn)

/-- Cell j of a lock. -/
def Hold.cells (h : Hold) : List Value := [.string h.mode, .int .u64 h.ver, .bool h.cdr, .bool h.loc, .bool h.tol, .bool h.wri, .int .u64 h.tok, .int .u64 h.sqn]
def Lk.cells (l : Lk) : List Value := .string l.res :: l.hd.cells

/-- The array of four locks by value. -/
def IpAt (cs : Array Value) (I : Nat → Lk) : Prop := ∀ i, i < 4 → ∀ j, j < 9 → cs[i * 9 + j]? = (I i).cells[j]?

/-- The slice of locks. -/
def OtAt (w : World) (a : Option Addr) (n : Nat) (L : Nat → Lk) : Prop := ∀ i, i < n → ∃ b o, a = some ⟨b, o, none⟩ ∧ b < w.heap.size ∧ LkAt w b (o + i * 9) (L i)

/-- The slice of indices. -/
def UtAt (w : World) (a : Option Addr) (n : Nat) (U : Nat → Int) : Prop := ∀ i, i < n → ∃ b o, a = some ⟨b, o, none⟩ ∧ b < w.heap.size ∧ w.cell? ⟨b, o + i, none⟩ = some (.int .i64 (U i))

theorem LkAt.of_cells {w w' : World} {b o : Nat} {l : Lk} (h : LkAt w b o l) (e : ∀ j, w'.cell? ⟨b, j, none⟩ = w.cell? ⟨b, j, none⟩) : LkAt w' b o l :=
  ⟨(e _).trans h.c0, (e _).trans h.c1, (e _).trans h.c2, (e _).trans h.c3, (e _).trans h.c4, (e _).trans h.c5, (e _).trans h.c6, (e _).trans h.c7, (e _).trans h.c8⟩
theorem HdAt.of_cells {w w' : World} {b o : Nat} {l : Hold} (h : HdAt w b o l) (e : ∀ j, w'.cell? ⟨b, j, none⟩ = w.cell? ⟨b, j, none⟩) : HdAt w' b o l :=
  ⟨(e _).trans h.c0, (e _).trans h.c1, (e _).trans h.c2, (e _).trans h.c3, (e _).trans h.c4, (e _).trans h.c5, (e _).trans h.c6, (e _).trans h.c7⟩
theorem LkAt.below {B : Nat} {w w' : World} {b o : Nat} {l : Lk} (h : LkAt w b o l) (hb : Below B w w') (hlt : b < B) : LkAt w' b o l :=
  h.of_cells fun j => hb.cell (p := ⟨b, j, none⟩) hlt
theorem HdAt.below {B : Nat} {w w' : World} {b o : Nat} {l : Hold} (h : HdAt w b o l) (hb : Below B w w') (hlt : b < B) : HdAt w' b o l :=
  h.of_cells fun j => hb.cell (p := ⟨b, j, none⟩) hlt
theorem OtAt.below {w w' : World} {a : Option Addr} {n : Nat} {L : Nat → Lk} (h : OtAt w a n L) (hb : Below w.heap.size w w') : OtAt w' a n L := fun i hi => by
  obtain ⟨b, o, e, hlt, hk⟩ := h i hi
  exact ⟨b, o, e, Nat.lt_of_lt_of_le hlt hb.size, hk.below hb hlt⟩
theorem UtAt.below {w w' : World} {a : Option Addr} {n : Nat} {U : Nat → Int} (h : UtAt w a n U) (hb : Below w.heap.size w w') : UtAt w' a n U := fun i hi => by
  obtain ⟨b, o, e, hlt, hk⟩ := h i hi
  exact ⟨b, o, e, Nat.lt_of_lt_of_le hlt hb.size, (hb.cell (p := ⟨b, o + i, none⟩) hlt).trans hk⟩

/-- The boxed array, in every world behind its box. -/
theorem IpAt.box {cs : Array Value} {I : Nat → Lk} (h : IpAt cs I) {w wr : World} {t : TypeId} (hb : Below (w.heap.size + 1) (w.alloc (.cells cs t)) wr) {k : Nat} (hk : k < 4) : LkAt wr w.heap.size (k * 9) (I k) := by
  have e : ∀ j, wr.cell? ⟨w.heap.size, j, none⟩ = cs[j]? := fun j => by
    rw [hb.cell (p := ⟨w.heap.size, j, none⟩) (by simp)]
    have e0 : (w.alloc (.cells cs t)).heap[w.heap.size]? = some (.cells cs t) := (MapKept.heap_alloc w _).1
    show (match (w.alloc (.cells cs t)).heap[w.heap.size]? with | some (.cells c _ _) => if (none : Option Nat).isSome then none else c[j]? | _ => none) = _
    rw [e0]; rfl
  have q : ∀ j, j < 9 → wr.cell? ⟨w.heap.size, k * 9 + j, none⟩ = (I k).cells[j]? := fun j hj => (e _).trans (h k hk j hj)
  exact ⟨q 0 (by omega), q 1 (by omega), q 2 (by omega), q 3 (by omega), q 4 (by omega), q 5 (by omega), q 6 (by omega), q 7 (by omega), q 8 (by omega)⟩

theorem blk {w wr : World} {B i : Nat} {o : Obj} (hb : Below B w wr) (h : w.heap[i]? = some o) (hlt : i < B) : wr.heap[i]? = some o := (hb.block i hlt).trans h
theorem heap_new (w : World) (o : Obj) : (w.alloc o).heap[w.heap.size]? = some o := (MapKept.heap_alloc w _).1
theorem heap_old {w : World} {i : Nat} {x : Obj} (o : Obj) (h : w.heap[i]? = some x) : (w.alloc o).heap[i]? = some x := by
  have hlt : i < w.heap.size := (Array.getElem?_eq_some_iff.1 h).1
  rw [Below.heap_alloc _ _ _ hlt]; exact h
theorem cell_of_heap {w : World} {b : Nat} {cs : Array Value} {t : TypeId} {fz : Nat × Nat} (h : w.heap[b]? = some (.cells cs t fz)) (o : Nat) : w.cell? ⟨b, o, none⟩ = cs[o]? := by
  show (match w.heap[b]? with | some (.cells c _ _) => if (none : Option Nat).isSome then none else c[o]? | _ => none) = _
  rw [h]; rfl
theorem IpAt.at {cs : Array Value} {I : Nat → Lk} (h : IpAt cs I) {wr : World} {B : Nat} {t : TypeId} (hb : wr.heap[B]? = some (.cells cs t)) {k : Nat} (hk : k < 4) : LkAt wr B (k * 9) (I k) := by
  have q : ∀ j, j < 9 → wr.cell? ⟨B, k * 9 + j, none⟩ = (I k).cells[j]? := fun j hj => (cell_of_heap hb _).trans (h k hk j hj)
  exact ⟨q 0 (by omega), q 1 (by omega), q 2 (by omega), q 3 (by omega), q 4 (by omega), q 5 (by omega), q 6 (by omega), q 7 (by omega), q 8 (by omega)⟩
theorem box2Below {w wr : World} {o o2 : Obj} (hb : Below (w.heap.size + 2) ((w.alloc o).alloc o2) wr) : Below w.heap.size w wr :=
  (((Below.refl _ _).alloc (Nat.le_refl _) o).alloc (by simp) o2).trans (hb.mono (by omega))
theorem bcell {W w1 : World} (hb : Below W.heap.size W w1) : (∀ b o, b < W.heap.size → w1.cell? ⟨b, o, none⟩ = W.cell? ⟨b, o, none⟩) ∧ (∀ b o, b < W.heap.size → w1.frozen? ⟨b, o, none⟩ = W.frozen? ⟨b, o, none⟩) :=
  ⟨fun b o h => hb.cell (p := ⟨b, o, none⟩) h, fun b o h => hb.frozen (p := ⟨b, o, none⟩) h⟩
theorem boxB {w wr : World} {o : Obj} (hb : Below (w.alloc o).heap.size (w.alloc o) wr) : Below w.heap.size w wr :=
  ((Below.refl _ _).alloc (Nat.le_refl _) o).trans (hb.mono (by simp))
theorem boxBd {w wr : World} {o : Obj} (hb : Below (w.alloc o).drew.heap.size (w.alloc o).drew wr) : Below w.heap.size w wr :=
  (((Below.refl _ _).alloc (Nat.le_refl _) o).drew).trans (hb.mono (by simp))
theorem hide {p : Prop} (h : p) : Hid p := h
theorem unhide {p : Prop} (h : Hid p) : p := h
theorem ret_int {k : IntKind} {a b : Int} (h : a = b) : Ending.returned (.int k a) = .returned (.int k b) := by rw [h]
theorem ret_bool {a b : Bool} (h : a = b) : Ending.returned (.bool a) = .returned (.bool b) := by rw [h]
theorem boxBelow {w wr : World} {o : Obj} (hb : Below (w.heap.size + 1) (w.alloc o) wr) : Below w.heap.size w wr :=
  ((Below.refl _ _).alloc (Nat.le_refl _) o).trans (hb.mono (Nat.le_succ _))
theorem Below_drewN {B : Nat} {a w : World} (h : Below B a w) (k : Nat) : Below B a (w.drewN k) := ⟨h.os, h.tape, h.output, h.size, h.block⟩
theorem strT {a b : ByteArray} (h : a = b) : (a.toList == b.toList) = true := by rw [h]; simp
theorem strF {a b : ByteArray} (h : a ≠ b) : (a.toList == b.toList) = false := by
  rw [beq_eq_false_iff_ne]
  intro e
  rw [ByteArray.toList_eq, ByteArray.toList_eq] at e
  exact h (ByteArray.ext (Array.toList_inj.1 e))
theorem str_of {a b : ByteArray} (h : (a.toList == b.toList) = true) : a = b := by
  rw [beq_iff_eq, ByteArray.toList_eq, ByteArray.toList_eq] at h
  exact ByteArray.ext (Array.toList_inj.1 h)
/-- What zzWellFormed holds of its input. -/
structure WF (I : Nat → Lk) (x : Int) (L : Nat → Lk) (n : Nat) (U : Nat → Int) (u : Nat) : Prop where
  lo : 0 ≤ x
  hi : x ≤ 4
  ii : ∀ i j : Nat, i < j → (j : Int) < x → (I i).res ≠ (I j).res
  io : ∀ i j : Nat, (i : Int) < x → j < n → (I i).res ≠ (L j).res
  oo : ∀ i j : Nat, i < j → j < n → (L i).res ≠ (L j).res
  rng : ∀ k : Nat, k < u → 0 ≤ U k ∧ U k < n
  uu : ∀ k m : Nat, k < m → m < u → U k ≠ U m
  all : ∀ i : Nat, i < n → (L i).hd.loc = true → (L i).hd.tol = false → ∃ k : Nat, k < u ∧ U k = i

/-! ### cells that are written -/
theorem cell_ex {w : World} {b : Nat} {cs : Array Value} {t : TypeId} {fz : Nat × Nat} (h : w.heap[b]? = some (.cells cs t fz)) {o : Nat} (ho : o < cs.size) : ∃ v, w.cell? ⟨b, o, none⟩ = some v :=
  ⟨cs[o], by rw [cell_of_heap h]; exact Array.getElem?_eq_getElem ho⟩
theorem unfrozen {w : World} {b : Nat} {cs : Array Value} {t : TypeId} (h : w.heap[b]? = some (.cells cs t)) (o : Nat) : w.frozen? ⟨b, o, none⟩ = false := frozen_of_row w b o cs t h

/-- Block b is a row of n cells of type t, none frozen. -/
def Row (w : World) (b : Nat) (t : TypeId) (n : Nat) : Prop := ∃ cs : Array Value, w.heap[b]? = some (.cells cs t) ∧ cs.size = n
theorem Row.fz {w : World} {b t n : Nat} (h : Row w b t n) (o : Nat) : w.frozen? ⟨b, o, none⟩ = false := by
  obtain ⟨cs, h, _⟩ := h; exact unfrozen h o
theorem Row.ex {w : World} {b t n : Nat} (h : Row w b t n) {o : Nat} (ho : o < n) : ∃ v, w.cell? ⟨b, o, none⟩ = some v := by
  obtain ⟨cs, h, hs⟩ := h; exact cell_ex h (by omega)
theorem Row.lt {w : World} {b t n : Nat} (h : Row w b t n) : b < w.heap.size := by
  obtain ⟨cs, h, hs⟩ := h; exact (Array.getElem?_eq_some_iff.1 h).1
theorem Row.new (w : World) (cs : Array Value) (t : TypeId) : Row (w.alloc (.cells cs t)) w.heap.size t cs.size := ⟨cs, heap_new _ _, rfl⟩
theorem Row.of_block {w w' : World} {b t n : Nat} (h : Row w b t n) (e : w'.heap[b]? = w.heap[b]?) : Row w' b t n := by
  obtain ⟨cs, h, hs⟩ := h; exact ⟨cs, e.trans h, hs⟩
theorem Row.below {B : Nat} {w w' : World} {b t n : Nat} (h : Row w b t n) (hb : Below B w w') (hlt : b < B) : Row w' b t n := h.of_block (hb.block b hlt)
theorem setCell_other {w : World} {b i : Nat} (a : Addr) (v : Value) (h : i ≠ a.block) : (w.setCell a v).heap[i]? = w.heap[i]? := Below.heap_setCell w a v i h
theorem Row.setCell {w : World} {b t n : Nat} (h : Row w b t n) (a : Addr) (v : Value) : Row (w.setCell a v) b t n := by
  by_cases e : b = a.block
  · obtain ⟨cs, h, hs⟩ := h
    refine ⟨if a.spot.isSome then cs else cs.setIfInBounds a.off v, ?_, by split <;> simp [hs]⟩
    subst e
    simp only [World.setCell, Array.getElem?_modify, if_true, h, Option.map_some]
  · exact h.of_block (setCell_other (b := b) a v e)
theorem setCells_other (b : Nat) : ∀ (vs : List Value) (o : Nat) (w : World) (i : Nat), i ≠ b → (w.setCells b o vs).heap[i]? = w.heap[i]?
  | [], _, _, _, _ => rfl
  | v :: r, o, w, i, h => by
    rw [World.setCells, setCells_other b r (o + 1) _ i h]
    exact setCell_other (b := b) ⟨b, o, none⟩ v h
theorem Row.setCells {b t n : Nat} (b' : Nat) : ∀ (vs : List Value) (o : Nat) (w : World), Row w b t n → Row (w.setCells b' o vs) b t n
  | [], _, _, h => h
  | v :: r, o, w, h => by
    rw [World.setCells]
    exact Row.setCells b' r (o + 1) _ (h.setCell _ _)
theorem setCells_size (b : Nat) : ∀ (vs : List Value) (o : Nat) (w : World), (w.setCells b o vs).heap.size = w.heap.size
  | [], _, _ => rfl
  | v :: r, o, w => by rw [World.setCells, setCells_size b r (o + 1)]; simp
theorem Below.setCells' {B : Nat} {a : World} (b : Nat) (hB : B ≤ b) : ∀ (vs : List Value) (o : Nat) (w : World), Below B a w → Below B a (w.setCells b o vs)
  | [], _, _, h => h
  | v :: r, o, w, h => by rw [World.setCells]; exact Below.setCells' b hB r (o + 1) _ (h.setCell (p := ⟨b, o, none⟩) hB v)
/-- a cell of the written range -/
theorem setCells_in {w : World} {b t n o : Nat} {vs : List Value} (h : Row w b t n) (ho : o + vs.length ≤ n) {j : Nat} (hj : j < vs.length) : (w.setCells b o vs).cell? ⟨b, o + j, none⟩ = vs[j]? := by
  rw [World.cell?_setCells_in b vs o w (fun i hi => by obtain ⟨v, e⟩ := h.ex (o := o + i) (by omega); rw [e]; rfl) j hj, List.getElem?_eq_getElem hj]
/-- a cell outside of it -/
theorem setCells_out {w : World} {b o : Nat} {vs : List Value} {b' o' : Nat} (h : b' ≠ b ∨ o' < o ∨ o + vs.length ≤ o') : (w.setCells b o vs).cell? ⟨b', o', none⟩ = w.cell? ⟨b', o', none⟩ :=
  World.cell?_setCells_out b vs o w ⟨b', o', none⟩ (fun e _ => by simp at e; rcases h with h | h; exact (h e).elim; exact h)
theorem LkAt.of_range {w : World} {b o : Nat} {l : Lk} (h : ∀ j, j < 9 → w.cell? ⟨b, o + j, none⟩ = l.cells[j]?) : LkAt w b o l :=
  ⟨h 0 (by omega), h 1 (by omega), h 2 (by omega), h 3 (by omega), h 4 (by omega), h 5 (by omega), h 6 (by omega), h 7 (by omega), h 8 (by omega)⟩
theorem HdAt.of_range {w : World} {b o : Nat} {l : Hold} (h : ∀ j, j < 8 → w.cell? ⟨b, o + j, none⟩ = l.cells[j]?) : HdAt w b o l :=
  ⟨h 0 (by omega), h 1 (by omega), h 2 (by omega), h 3 (by omega), h 4 (by omega), h 5 (by omega), h 6 (by omega), h 7 (by omega)⟩
theorem LkAt.range {w : World} {b o : Nat} {l : Lk} (h : LkAt w b o l) : ∀ j, j < 9 → w.cell? ⟨b, o + j, none⟩ = l.cells[j]? := fun j hj => by
  match j, hj with
  | 0, _ => exact h.c0
  | 1, _ => exact h.c1
  | 2, _ => exact h.c2
  | 3, _ => exact h.c3
  | 4, _ => exact h.c4
  | 5, _ => exact h.c5
  | 6, _ => exact h.c6
  | 7, _ => exact h.c7
  | 8, _ => exact h.c8
theorem HdAt.range {w : World} {b o : Nat} {l : Hold} (h : HdAt w b o l) : ∀ j, j < 8 → w.cell? ⟨b, o + j, none⟩ = l.cells[j]? := fun j hj => by
  match j, hj with
  | 0, _ => exact h.c0
  | 1, _ => exact h.c1
  | 2, _ => exact h.c2
  | 3, _ => exact h.c3
  | 4, _ => exact h.c4
  | 5, _ => exact h.c5
  | 6, _ => exact h.c6
  | 7, _ => exact h.c7
theorem LkAt.hd {w : World} {b o : Nat} {l : Lk} (h : LkAt w b o l) : HdAt w b (o + 1) l.hd := ⟨h.c1, h.c2, h.c3, h.c4, h.c5, h.c6, h.c7, h.c8⟩
theorem LkAt.mk' {w : World} {b o : Nat} {l : Lk} (h0 : w.cell? ⟨b, o, none⟩ = some (.string l.res)) (h : HdAt w b (o + 1) l.hd) : LkAt w b o l := ⟨h0, h.c0, h.c1, h.c2, h.c3, h.c4, h.c5, h.c6, h.c7⟩
theorem LkAt.set {w : World} {b t n o : Nat} (l : Lk) (h : Row w b t n) (ho : o + 9 ≤ n) : LkAt (w.setCells b o l.cells) b o l :=
  LkAt.of_range fun j hj => setCells_in h (vs := l.cells) ho hj
theorem LkAt.out {w : World} {b o : Nat} {l : Lk} (h : LkAt w b o l) {b' o' : Nat} {vs : List Value} (hap : b ≠ b' ∨ o + 9 ≤ o' ∨ o' + vs.length ≤ o) : LkAt (w.setCells b' o' vs) b o l :=
  LkAt.of_range fun j hj => (setCells_out (by rcases hap with e | e | e; exact .inl e; exact .inr (.inl (by omega)); exact .inr (.inr (by omega)))).trans (h.range j hj)
theorem HdAt.set {w : World} {b t n o : Nat} (l : Hold) (h : Row w b t n) (ho : o + 8 ≤ n) : HdAt (w.setCells b o l.cells) b o l :=
  HdAt.of_range fun j hj => setCells_in h (vs := l.cells) ho hj
theorem HdAt.out {w : World} {b o : Nat} {l : Hold} (h : HdAt w b o l) {b' o' : Nat} {vs : List Value} (hap : b ≠ b' ∨ o + 8 ≤ o' ∨ o' + vs.length ≤ o) : HdAt (w.setCells b' o' vs) b o l :=
  HdAt.of_range fun j hj => (setCells_out (by rcases hap with e | e | e; exact .inl e; exact .inr (.inl (by omega)); exact .inr (.inr (by omega)))).trans (h.range j hj)
theorem Lk.len (l : Lk) : l.cells.length = 9 := rfl
theorem Hold.len (l : Hold) : l.cells.length = 8 := rfl

end Go.Proofs.Qxb6605402a
