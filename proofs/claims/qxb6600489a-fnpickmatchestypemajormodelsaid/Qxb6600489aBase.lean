import Derived.Test.Qxb6600489aRows
import Derived.WalkKit
import Derived.WalkSpells
import Derived.WalkLawsBesides
import Derived.Deep.QuietTactic
import Derived.BigQuiet
import Derived.Deep.LoopGhost
import Derived.Deep.DeepCutAuto
import Derived.Deep.MidRow
import Derived.Deep.OwnRows
import Derived.Deep.AppendLies
import Derived.Deep.RegionHeld3
namespace Go.Proofs.Qxb6600489a
open Go.RowKit
set_option linter.unusedVariables false
set_option linter.unusedSimpArgs false

theorem hide {p : Prop} (h : p) : Hid p := h
theorem heap_new (w : World) (o : Obj) : (w.alloc o).heap[w.heap.size]? = some o := (MapKept.heap_alloc w _).1
theorem heap_old {w : World} {i : Nat} (o : Obj) (h : i < w.heap.size) : (w.alloc o).heap[i]? = w.heap[i]? := Below.heap_alloc _ _ _ h
theorem cell_of_heap {w : World} {b : Nat} {cs : Array Value} {t : TypeId} {fz : Nat × Nat} (h : w.heap[b]? = some (.cells cs t fz)) (o : Nat) : w.cell? ⟨b, o, none⟩ = cs[o]? := by
  show (match w.heap[b]? with | some (.cells c _ _) => if (none : Option Nat).isSome then none else c[o]? | _ => none) = _
  rw [h]; rfl
theorem heap_lt {w : World} {b : Nat} {x : Obj} (h : w.heap[b]? = some x) : b < w.heap.size := (Array.getElem?_eq_some_iff.1 h).1
theorem Below_drewN {B : Nat} {a w : World} (h : Below B a w) (k : Nat) : Below B a (w.drewN k) := ⟨h.os, h.tape, h.output, h.size, h.block⟩
theorem frz_of_row {w : World} {b : Nat} {cs : Array Value} {t : TypeId} (h : w.heap[b]? = some (.cells cs t)) (o : Nat) : w.frozen? ⟨b, o, none⟩ = false := frozen_of_row w b o cs t h
theorem cell_blk {w w' : World} {b o : Nat} (e : w'.heap[b]? = w.heap[b]?) : w'.cell? ⟨b, o, none⟩ = w.cell? ⟨b, o, none⟩ := World.cell?_of_block (w := w) (a := ⟨b, o, none⟩) e
theorem block_lt {w : World} {b o : Nat} {v : Value} (h : w.cell? ⟨b, o, none⟩ = some v) : b < w.heap.size := by
  rcases Nat.lt_or_ge b w.heap.size with h' | h'
  · exact h'
  · simp [World.cell?, Array.getElem?_eq_none h'] at h

/-- A transform. -/
structure Tr where
  ty : Int
  id : Int
  kl : Int
/-- A transform's three cells. -/
structure TrAt (w : World) (b o : Nat) (t : Tr) : Prop where
  c0 : w.cell? ⟨b, o, none⟩ = some (.int .u8 t.ty)
  c1 : w.cell? ⟨b, o + 1, none⟩ = some (.int .u16 t.id)
  c2 : w.cell? ⟨b, o + 2, none⟩ = some (.int .u16 t.kl)
theorem TrAt.keep {w w' : World} {b o : Nat} {t : Tr} (h : TrAt w b o t) (e : w'.heap[b]? = w.heap[b]?) : TrAt w' b o t := ⟨(cell_blk e).trans h.c0, (cell_blk e).trans h.c1, (cell_blk e).trans h.c2⟩
/-- A slice of transforms, read. -/
def TsAt (w : World) (a : Option Addr) (n : Nat) (P : Nat → Tr) : Prop := ∀ i, i < n → ∃ b o, a = some ⟨b, o, none⟩ ∧ b < w.heap.size ∧ TrAt w b (o + i * 3) (P i)
theorem TsAt.below {w w' : World} {a : Option Addr} {n : Nat} {P : Nat → Tr} (h : TsAt w a n P) (hb : Below w.heap.size w w') : TsAt w' a n P := fun i hi => by
  obtain ⟨b, o, e, hlt, hk⟩ := h i hi
  exact ⟨b, o, e, Nat.lt_of_lt_of_le hlt hb.size, hk.keep (hb.block b hlt)⟩
/-- A slice of numbers, read. -/
def BtAt (k : IntKind) (w : World) (a : Option Addr) (n : Nat) (f : Nat → Int) : Prop := ∀ i, i < n → ∃ b o, a = some ⟨b, o, none⟩ ∧ b < w.heap.size ∧ w.cell? ⟨b, o + i, none⟩ = some (.int k (f i))
theorem BtAt.below {k : IntKind} {w w' : World} {a : Option Addr} {n : Nat} {f : Nat → Int} (h : BtAt k w a n f) (hb : Below w.heap.size w w') : BtAt k w' a n f := fun i hi => by
  obtain ⟨b, o, e, hlt, hk⟩ := h i hi
  exact ⟨b, o, e, Nat.lt_of_lt_of_le hlt hb.size, (hb.cell (p := ⟨b, o + i, none⟩) hlt).trans hk⟩

/-! ### rows -/
def Row (w : World) (b : Nat) (t : TypeId) (n : Nat) : Prop := ∃ cs : Array Value, w.heap[b]? = some (.cells cs t) ∧ cs.size = n
theorem Row.fz {w : World} {b t n : Nat} (h : Row w b t n) (o : Nat) : w.frozen? ⟨b, o, none⟩ = false := by
  obtain ⟨cs, h, _⟩ := h; exact frz_of_row h o
theorem Row.ex {w : World} {b t n : Nat} (h : Row w b t n) {o : Nat} (ho : o < n) : ∃ v, w.cell? ⟨b, o, none⟩ = some v := by
  obtain ⟨cs, h, hs⟩ := h
  exact ⟨cs[o], by rw [cell_of_heap h]; exact Array.getElem?_eq_getElem (by omega)⟩
theorem Row.lt {w : World} {b t n : Nat} (h : Row w b t n) : b < w.heap.size := by
  obtain ⟨cs, h, hs⟩ := h; exact heap_lt h
theorem Row.of_block {w w' : World} {b t n : Nat} (h : Row w b t n) (e : w'.heap[b]? = w.heap[b]?) : Row w' b t n := by
  obtain ⟨cs, h, hs⟩ := h; exact ⟨cs, e.trans h, hs⟩
theorem setCell_other {w : World} {i : Nat} (a : Addr) (v : Value) (h : i ≠ a.block) : (w.setCell a v).heap[i]? = w.heap[i]? := Below.heap_setCell w a v i h
theorem Row.setCell {w : World} {b t n : Nat} (h : Row w b t n) (a : Addr) (v : Value) : Row (w.setCell a v) b t n := by
  by_cases e : b = a.block
  · obtain ⟨cs, h, hs⟩ := h
    refine ⟨if a.spot.isSome then cs else cs.setIfInBounds a.off v, ?_, by split <;> simp [hs]⟩
    subst e
    simp only [World.setCell, Array.getElem?_modify, if_true, h, Option.map_some]
  · exact h.of_block (setCell_other a v e)
theorem cell_other {w : World} {b o b' o' : Nat} {v : Value} (h : b' ≠ b ∨ o' ≠ o) : (w.setCell ⟨b, o, none⟩ v).cell? ⟨b', o', none⟩ = w.cell? ⟨b', o', none⟩ :=
  World.cell?_setCell_other _ _ _ _ (fun e => by simp at e; rcases h with h | h; exact h e.1.symm; exact h e.2.symm)
theorem cell_same {w : World} {b o t n : Nat} {v : Value} (h : Row w b t n) (ho : o < n) : (w.setCell ⟨b, o, none⟩ v).cell? ⟨b, o, none⟩ = some v := by
  obtain ⟨x, hx⟩ := h.ex ho
  exact World.cell?_setCell_same _ _ _ hx
/-- a transform is stored -/
theorem TrAt.put {w : World} {b o t n : Nat} (h : Row w b t n) (ho : o + 3 ≤ n) (x : Tr) : TrAt (((w.setCell ⟨b, o, none⟩ (.int .u8 x.ty)).setCell ⟨b, o + 1, none⟩ (.int .u16 x.id)).setCell ⟨b, o + 2, none⟩ (.int .u16 x.kl)) b o x := by
  have r1 := h.setCell ⟨b, o, none⟩ (.int .u8 x.ty)
  have r2 := r1.setCell ⟨b, o + 1, none⟩ (.int .u16 x.id)
  refine ⟨?_, ?_, cell_same r2 (by omega)⟩
  · rw [cell_other (.inr (by omega)), cell_other (.inr (by omega))]; exact cell_same h (by omega)
  · rw [cell_other (.inr (by omega))]; exact cell_same r1 (by omega)
theorem TrAt.out {w : World} {b o o' : Nat} {y : Tr} (x : Tr) (h : TrAt w b o' y) (ho : o' + 3 ≤ o ∨ o + 3 ≤ o') : TrAt (((w.setCell ⟨b, o, none⟩ (.int .u8 x.ty)).setCell ⟨b, o + 1, none⟩ (.int .u16 x.id)).setCell ⟨b, o + 2, none⟩ (.int .u16 x.kl)) b o' y := by
  refine ⟨?_, ?_, ?_⟩
  · rw [cell_other (.inr (by omega)), cell_other (.inr (by omega)), cell_other (.inr (by omega))]; exact h.c0
  · rw [cell_other (.inr (by omega)), cell_other (.inr (by omega)), cell_other (.inr (by omega))]; exact h.c1
  · rw [cell_other (.inr (by omega)), cell_other (.inr (by omega)), cell_other (.inr (by omega))]; exact h.c2

/-- 'make([]T, n)': some row of n elements. -/
theorem make_any {t e : TypeId} {zs size bytes : Nat} (ht : Try.prog.underlying t = some (.slice e)) (hinfo : (Try.prog.info? e).map (fun i => (i.zero.map (·.cells.size), i.size, i.bytes)) = some (some zs, size, bytes)) (n : Nat) (hb : bytes * n ≤ 281474976710656) (h63 : n ≤ 9223372036854775807) :
    ∃ cs : Array Value, cs.size = n * size ∧ ∀ w, (Instr.makeSlice t (.int .i64 (n : Int)) (.int .i64 (n : Int))).run Try.prog w = .ok (.slice (some ⟨w.heap.size, 0, none⟩) n n) (w.alloc (.cells cs e)) := by
  obtain ⟨i, hi, hzz⟩ := Option.map_eq_some_iff.1 hinfo
  simp only [Prod.mk.injEq, Option.map_eq_some_iff] at hzz
  obtain ⟨⟨z, hz, _⟩, hs, hby⟩ := hzz
  refine ⟨madeCells z.cells (n * size), size_madeCells _ _, fun w => ?_⟩
  have hb' : (i.bytes : Int) * (n : Int) ≤ 281474976710656 := by
    have h : ((i.bytes * n : Nat) : Int) ≤ 281474976710656 := by rw [hby]; omega
    rwa [Int.natCast_mul] at h
  have hr := run_make (P := Try.prog) w t e i z ht hi hz .i64 .i64 n n (by omega) (Int.le_refl _) hb' (by omega)
  simp only [Int.toNat_natCast, hs] at hr
  exact hr
/-- 'make([]bool, n)' -/
theorem make_false (n : Nat) (hn : n ≤ 1048576) : ∃ cs : Array Value, cs.size = n ∧ (∀ i, i < n → cs[i]? = some (.bool false)) ∧ ∀ w, (Instr.makeSlice 48 (.int .i64 (n : Int)) (.int .i64 (n : Int))).run Try.prog w = .ok (.slice (some ⟨w.heap.size, 0, none⟩) n n) (w.alloc (.cells cs 4)) := by
  have hinfo : (Try.prog.info? 4).map (fun i => (i.zero, i.size, i.bytes)) = some (some (.bool false), 1, 1) := by kernel_rfl
  obtain ⟨i, hi, hzz⟩ := Option.map_eq_some_iff.1 hinfo
  simp only [Prod.mk.injEq] at hzz
  obtain ⟨hz, hs, hby⟩ := hzz
  refine ⟨madeCells (Value.bool false).cells (n * 1), by rw [size_madeCells, Nat.mul_one], fun j hj => ?_, fun w => ?_⟩
  · simp [madeCells, Value.cells, hj, Nat.mod_one]
  · have hb' : (i.bytes : Int) * (n : Int) ≤ 281474976710656 := by rw [hby]; omega
    have hr := run_make (P := Try.prog) w 48 4 i _ Try.underlying48 hi hz .i64 .i64 n n (by omega) (Int.le_refl _) hb' (by omega)
    simp only [Int.toNat_natCast, hs] at hr
    exact hr
theorem Try.sz42 : (Try.prog.info? 42).map (fun i => (i.zero.map (·.cells.size), i.size, i.bytes)) = some (some 3, 3, 6) := by kernel_rfl
theorem Try.sz44 : (Try.prog.info? 44).map (fun i => (i.zero.map (·.cells.size), i.size, i.bytes)) = some (some 3, 3, 6) := by kernel_rfl
theorem Try.sz39 : (Try.prog.info? 39).map (fun i => (i.zero.map (·.cells.size), i.size, i.bytes)) = some (some 1, 1, 1) := by kernel_rfl

/-! ### equality of transforms -/
theorem st42 : Try.prog.stoodInHeld 42 = false := by kernel_rfl
theorem st44 : Try.prog.stoodInHeld 44 = false := by kernel_rfl
theorem u42 : Try.prog.underlying 42 = some (.struct (Try.prog.fieldsOf 42)) := by kernel_rfl
theorem u44 : Try.prog.underlying 44 = some (.struct (Try.prog.fieldsOf 44)) := by kernel_rfl
def same (x y : Tr) : Bool := (x.ty == y.ty) && ((x.id == y.id) && (x.kl == y.kl))
theorem same_iff (x y : Tr) : same x y = true ↔ x = y := by
  obtain ⟨a, b, c⟩ := x
  obtain ⟨d, e, f⟩ := y
  simp [same, and_assoc]
set_option maxHeartbeats 1000000 in
theorem eq42 (d : Nat) (x y : Tr) (w : World) : (Op.equalIn (d + 2) 42 (.agg #[.int .u8 x.ty, .int .u16 x.id, .int .u16 x.kl]) (.agg #[.int .u8 y.ty, .int .u16 y.id, .int .u16 y.kl])).run Try.prog w = .ok (same x y) w := by
  rw [run_equalIn_struct w (d + 1) 42 _ _ u42 st42]
  go_simp
  unfold same
  by_cases h1 : x.ty = y.ty <;> by_cases h2 : x.id = y.id <;> by_cases h3 : x.kl = y.kl <;> simp [h1, h2, h3]
theorem eql42 (x y : Tr) (w : World) : (binOp .eql 42 (.agg #[.int .u8 x.ty, .int .u16 x.id, .int .u16 x.kl]) (.agg #[.int .u8 y.ty, .int .u16 y.id, .int .u16 y.kl])).run Try.prog w = .ok (.bool (same x y)) w := by
  have h := eq42 9998 x y w
  simp only [binOp, Op.equal, Op.maxDepth, Sem.run_bind, h, Result.andThen_ok, Sem.run_pure]
theorem gd42 : Try.prog.eqGuardType Try.prog.depth 42 = false := by kernel_rfl
theorem eg42 (x y : Operand) (a b : Array Value) (w : World) : (eqGuard .eql 42 x y (.agg a) (.agg b)).run Try.prog w = .ok () w := by
  simp [eqGuard, gd42]
set_option maxHeartbeats 1000000 in
theorem eq44 (d : Nat) (x y : Tr) (w : World) : (Op.equalIn (d + 2) 44 (.agg #[.int .u8 x.ty, .int .u16 x.id, .int .u16 x.kl]) (.agg #[.int .u8 y.ty, .int .u16 y.id, .int .u16 y.kl])).run Try.prog w = .ok (same x y) w := by
  rw [run_equalIn_struct w (d + 1) 44 _ _ u44 st44]
  go_simp
  unfold same
  by_cases h1 : x.ty = y.ty <;> by_cases h2 : x.id = y.id <;> by_cases h3 : x.kl = y.kl <;> simp [h1, h2, h3]
theorem eql44 (x y : Tr) (w : World) : (binOp .eql 44 (.agg #[.int .u8 x.ty, .int .u16 x.id, .int .u16 x.kl]) (.agg #[.int .u8 y.ty, .int .u16 y.id, .int .u16 y.kl])).run Try.prog w = .ok (.bool (same x y)) w := by
  have h := eq44 9998 x y w
  simp only [binOp, Op.equal, Op.maxDepth, Sem.run_bind, h, Result.andThen_ok, Sem.run_pure]
theorem gd44 : Try.prog.eqGuardType Try.prog.depth 44 = false := by kernel_rfl
theorem eg44 (x y : Operand) (a b : Array Value) (w : World) : (eqGuard .eql 44 x y (.agg a) (.agg b)).run Try.prog w = .ok () w := by
  simp [eqGuard, gd44]

end Go.Proofs.Qxb6600489a
