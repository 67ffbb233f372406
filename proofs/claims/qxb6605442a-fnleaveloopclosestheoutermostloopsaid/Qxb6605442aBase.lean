import Derived.Test.Qxb6605442aRows
import Derived.WalkKit
import Derived.WalkSpells
import Derived.WalkLawsBesides
import Derived.Deep.QuietTactic
import Derived.BigQuiet
import Derived.Deep.LoopGhost
import Derived.Deep.DeepCutAuto
import Derived.Deep.MidRow
import Derived.Deep.OwnRows
import Derived.Deep.AppendLies
import Derived.Laws.CopyOwn
namespace Go.Proofs.Qxb6605442a
open Go.RowKit
set_option linter.unusedVariables false
set_option linter.unusedSimpArgs false

theorem hide {p : Prop} (h : p) : Hid p := h
theorem unhide {p : Prop} (h : Hid p) : p := h
theorem heap_new (w : World) (o : Obj) : (w.alloc o).heap[w.heap.size]? = some o := (MapKept.heap_alloc w _).1
theorem cell_of_heap {w : World} {b : Nat} {cs : Array Value} {t : TypeId} {fz : Nat × Nat} (h : w.heap[b]? = some (.cells cs t fz)) (o : Nat) : w.cell? ⟨b, o, none⟩ = cs[o]? := by
  show (match w.heap[b]? with | some (.cells c _ _) => if (none : Option Nat).isSome then none else c[o]? | _ => none) = _
  rw [h]; rfl
theorem blk {w wr : World} {B i : Nat} {o : Obj} (hb : Below B w wr) (h : w.heap[i]? = some o) (hlt : i < B) : wr.heap[i]? = some o := (hb.block i hlt).trans h

theorem Below_drewN {B : Nat} {a w : World} (h : Below B a w) (k : Nat) : Below B a (w.drewN k) := ⟨h.os, h.tape, h.output, h.size, h.block⟩
/-- Numbers of kind k in a slice, read. -/
def BtAt (k : IntKind) (w : World) (a : Option Addr) (n : Nat) (f : Nat → Int) : Prop := ∀ i, i < n → ∃ b o, a = some ⟨b, o, none⟩ ∧ b < w.heap.size ∧ w.cell? ⟨b, o + i, none⟩ = some (.int k (f i))
theorem BtAt.below {k : IntKind} {w w' : World} {a : Option Addr} {n : Nat} {f : Nat → Int} (h : BtAt k w a n f) (hb : Below w.heap.size w w') : BtAt k w' a n f := fun i hi => by
  obtain ⟨b, o, e, hlt, hk⟩ := h i hi
  exact ⟨b, o, e, Nat.lt_of_lt_of_le hlt hb.size, (hb.cell (p := ⟨b, o + i, none⟩) hlt).trans hk⟩

/-- The cells of n numbers. -/
def cs (k : IntKind) (n : Nat) (f : Nat → Int) : List Value := (List.range n).map fun i => Value.int k (f i)
theorem len_cs (k : IntKind) (n : Nat) (f : Nat → Int) : (cs k n f).length = n := by simp [cs]
theorem get_cs (k : IntKind) (n : Nat) (f : Nat → Int) {i : Nat} (h : i < n) : (cs k n f)[i]? = some (.int k (f i)) := by simp [cs, h]
theorem one_cs (k : IntKind) (n : Nat) (f : Nat → Int) : ∀ v ∈ cs k n f, v.oneCell' = true := by
  intro v hv
  simp only [cs, List.mem_map] at hv
  obtain ⟨i, _, rfl⟩ := hv
  rfl
theorem lt_of_get {k : IntKind} {n : Nat} {f : Nat → Int} {i : Nat} {v : Value} (h : (cs k n f)[i]? = some v) : i < n ∧ v = .int k (f i) := by
  have : i < (cs k n f).length := by
    rcases Nat.lt_or_ge i (cs k n f).length with h' | h'
    · exact h'
    · rw [List.getElem?_eq_none h'] at h; cases h
  rw [len_cs] at this
  rw [get_cs k n f this] at h
  exact ⟨this, (Option.some.inj h).symm⟩
theorem BtAt.of_own {k : IntKind} {e : TypeId} {w : World} {base : Nat} {a : Option Addr} {n cap : Nat} {f : Nat → Int} (h : w.ownsRow base e 1 (.slice a n cap) n (cs k n f)) : BtAt k w a n f := fun i hi => by
  obtain ⟨g, cap', e1, _, hlt⟩ := h.form (by omega)
  cases e1
  refine ⟨g, 0, rfl, hlt, ?_⟩
  have := h.cells (g := g) rfl i _ (get_cs k n f hi)
  rw [Addr.add_mid] at this
  exact this

/-! ### append of a made slice -/
theorem zero_cells (m : Nat) {z : Value} (hz : z.cells = #[z]) : (Builtin.zeroCells z.cells m).toList = List.replicate m z := by
  rw [hz]
  apply List.ext_getElem
  · simp [Builtin.zeroCells]
  · intro i h1 h2
    simp [Builtin.zeroCells, Nat.mod_one]

theorem run_appz {P : Program} (w : World) (base : Nat) (t u ty e : TypeId) (ki : IntKind) (i : TypeInfo) (z : Value) (ht : P.underlying t = some (.slice e)) (hu : P.underlying u = some (.int ki)) (hi : P.info? e = some i) (hz : i.zero = some z)
    (hsize : i.size = 1) (hby : i.bytes = 1) (hzs : z.cells = #[z]) (hz1 : z.oneCell' = true)
    (g n cap : Nat) (xs : List Value) (hown : w.ownsRow base e 1 (.slice (some ⟨g, 0, none⟩) n cap) n xs)
    (m : Nat) (hm : 0 < m) (hn : n + m ≤ 1048576 * 64) (hbase : base ≤ w.heap.size) :
    ∃ g' cap' w', (Builtin.append_ #[t, u] ty #[.slice (some ⟨g, 0, none⟩) n cap, .int .i64 m]).run P w = .ok (.slice (some ⟨g', 0, none⟩) (n + m) cap') w' ∧ w'.ownsRow base e 1 (.slice (some ⟨g', 0, none⟩) (n + m) cap') (n + m) (xs ++ List.replicate m z) ∧ w.grownBy w' (some g) ∧ (g' = g ∨ g' = w.heap.size) := by
  have hl : xs.length = n := by simpa using hown.1
  rcases hown.2 with ⟨h, _⟩ | ⟨g2, cap2, cur, hv, hbg, hg, hnc, hcm, hcs, htake⟩
  · cases h
  cases hv
  have hwr : IntKind.i64.wrap (m : Int) = m := by rw [IntKind.wrap_i64]; omega
  have hzl : (Builtin.zeroCells z.cells m).toList = List.replicate m z := zero_cells m hzs
  have hza : Builtin.zeroCells z.cells m = (List.replicate m z).toArray := Array.ext' (by rw [hzl])
  have hm0 : m ≠ 0 := by omega
  have hmn : ¬ ((m : Int) < 0) := by omega
  have hmp : ¬ ((m : Int) ≤ 0) := by omega
  have hmx : max (m : Int) 0 = m := by omega
  have hb48 : ¬ (281474976710656 < (m : Int)) := by omega
  have h1 : ∀ u ∈ List.replicate m z, u.oneCell' = true := fun u hu => by rw [(List.mem_replicate.1 hu).2]; exact hz1
  by_cases hroom : n + m ≤ cap
  · have hfit : n + (List.replicate m z).length ≤ cur.size := by simp; omega
    have hst := run_storeCells_at P g n e (List.replicate m z) 0 cur w hg (by simpa using hfit) h1
    simp only [Nat.add_zero] at hst
    refine ⟨g, cap, _, ?_, ⟨by simp [hl], .inr ⟨g, cap, _, rfl, hbg, setRow_heap w g cur ((cur.toList.take n ++ List.replicate m z ++ cur.toList.drop (n + (List.replicate m z).length)).toArray) e _ hg, hroom, hcm, ?_, ?_⟩⟩, ⟨rfl, rfl, rfl, by simp, fun k _ hk => setRow_other w g k _ (fun e => hk (by simp [e]))⟩, .inl rfl⟩
    · simp [Builtin.append_, run_underlying ht, run_underlying hu, sizeOf, typeInfo, zeroValue, hi, hz, hsize, hby, hroom, asInt, asIntOf, hwr, hmn, hmp, hmx, hm0, hb48, hza, Addr.add_lit, hst]
    · simp; omega
    · have e1 : xs = cur.toList.take n := by rw [← htake]; simp
      rw [Nat.mul_one, ← e1]
      have e2 : (xs ++ List.replicate m z).length = n + m := by simp [hl]
      show (xs ++ List.replicate m z ++ _).take (n + m) = _
      rw [← e2]; exact List.take_left
  · have holds : ∀ j u, xs[j]? = some u → w.cell? ((⟨g, 0, none⟩ : Addr).add j) = some u := hown.cells (g := g) rfl
    have hfo := run_firstCells_some (P := P) w.drew 1 n ⟨g, 0, none⟩ n cap xs (by omega) (by simpa using holds)
    have hge := grownCap_ge w (n + m) cap e
    have hcm' : grownCap w (n + m) cap e ≤ maxLen := grownCap_le_maxLen w (n + m) cap e (by unfold maxLen; omega)
    have h63' : ¬ (9223372036854775807 < ((n : Int) + (m : Int))) := by omega
    have hfits := growslice_fits (need := n + m) (old := cap) (bytes := 1) (by omega) (by omega)
    have h48' : ¬ (281474976710656 < Builtin.nextslicecap (n + m) cap) := by omega
    refine ⟨w.heap.size, grownCap w (n + m) cap e, w.drew.alloc (.cells (xs.toArray ++ (List.replicate m z).toArray ++ Builtin.zeroCells z.cells (grownCap w (n + m) cap e - (n + m))) e), ?_, ⟨by simp [hl], .inr ⟨w.heap.size, _, _, rfl, hbase, heap_alloc_new w.drew _, hge, hcm', ?_, ?_⟩⟩, ⟨rfl, rfl, rfl, by simp, fun k hk _ => Below.heap_alloc w.drew _ k hk⟩, .inr rfl⟩
    · simp [Builtin.append_, run_underlying ht, run_underlying hu, sizeOf, typeInfo, zeroValue, hi, hz, hsize, hby, hroom, asInt, asIntOf, hwr, hmn, hmp, hmx, hm0, hb48, hza, h63', h48', Question.forced, hfo, newRow, grownCap]
    · simp [size_zeroCells, hzs, hl]; omega
    · have e2 : (xs ++ List.replicate m z).length = n + m := by simp [hl]
      rw [Nat.mul_one]
      simp only [Array.toList_append]
      rw [← e2]; exact List.take_left

/-- 'append(v, make([]byte, m)...)' at the operation -/
theorem wpList_appz {P : Program} {w : World} {ops : Array Oper} {rest : List Oper} {o : Oper} {a : Act} {Q : Exit → Act → World → Prop} (hgd : o.guard = none) (s x : Operand) (t u : TypeId)
    (ho : o.op = .call { callee := .builtin .append, args := #[s, x], argTypes := #[t, u] })
    (base : Nat) (e : TypeId) (ki : IntKind) (i : TypeInfo) (z : Value) (ht : P.underlying t = some (.slice e)) (hu : P.underlying u = some (.int ki)) (hi : P.info? e = some i) (hz : i.zero = some z)
    (hsize : i.size = 1) (hby : i.bytes = 1) (hzs : z.cells = #[z]) (hz1 : z.oneCell' = true)
    (g n cap : Nat) (xs : List Value) (hs : a.eval s = .slice (some ⟨g, 0, none⟩) n cap) (hown : w.ownsRow base e 1 (.slice (some ⟨g, 0, none⟩) n cap) n xs)
    (m : Nat) (hx : a.eval x = .int .i64 m) (hm : 0 < m) (hn : n + m ≤ 1048576 * 64) (hbase : base ≤ w.heap.size)
    (h : ∀ g' cap' w', w'.ownsRow base e 1 (.slice (some ⟨g', 0, none⟩) (n + m) cap') (n + m) (xs ++ List.replicate m z) → w.grownBy w' (some g) → (g' = g ∨ g' = w.heap.size) → wpList P ops Q rest (a.put o.dst (.slice (some ⟨g', 0, none⟩) (n + m) cap')) w') : wpList P ops Q (o :: rest) a w := by
  refine wpList_plain hgd fun K hK => ?_
  obtain ⟨g', cap', w', hr, h2, h3, h4⟩ := run_appz (P := P) w base t u o.type e ki i z ht hu hi hz hsize hby hzs hz1 g n cap xs hown m hm hn hbase
  unfold Oper.wp execOp
  simp only [ho, resolve, invoke, builtin, Sem.run_bind, Sem.run_pure, Result.andThen_ok, List.map_toArray, List.map_cons, List.map_nil, hs, hx, hr]
  exact hK _ _ (h g' cap' w' h2 h3 h4)

theorem Try.info5 : (Try.prog.info? 5).map (fun i => (i.zero, i.size, i.bytes)) = some (some (.int .u8 0), 1, 1) := by kernel_rfl
theorem info5 : ∃ i, Try.prog.info? 5 = some i ∧ i.zero = some (.int .u8 0) ∧ i.size = 1 ∧ i.bytes = 1 := by
  obtain ⟨i, hi, hzz⟩ := Option.map_eq_some_iff.1 Try.info5
  simp only [Prod.mk.injEq] at hzz
  exact ⟨i, hi, hzz.1, hzz.2.1, hzz.2.2⟩

/-- 'make([]T, n)': some row of n elements. -/
theorem make_any {t e : TypeId} {zs size bytes : Nat} (ht : Try.prog.underlying t = some (.slice e)) (hinfo : (Try.prog.info? e).map (fun i => (i.zero.map (·.cells.size), i.size, i.bytes)) = some (some zs, size, bytes)) (n : Nat) (hb : bytes * n ≤ 281474976710656) (h63 : n ≤ 9223372036854775807) :
    ∃ cs : Array Value, cs.size = n * size ∧ ∀ w, (Instr.makeSlice t (.int .i64 (n : Int)) (.int .i64 (n : Int))).run Try.prog w = .ok (.slice (some ⟨w.heap.size, 0, none⟩) n n) (w.alloc (.cells cs e)) := by
  obtain ⟨i, hi, hzz⟩ := Option.map_eq_some_iff.1 hinfo
  simp only [Prod.mk.injEq, Option.map_eq_some_iff] at hzz
  obtain ⟨⟨z, hz, _⟩, hs, hby⟩ := hzz
  refine ⟨madeCells z.cells (n * size), size_madeCells _ _, fun w => ?_⟩
  have hb' : (i.bytes : Int) * (n : Int) ≤ 281474976710656 := by
    have h : ((i.bytes * n : Nat) : Int) ≤ 281474976710656 := by rw [hby]; omega
    rwa [Int.natCast_mul] at h
  have hr := run_make (P := Try.prog) w t e i z ht hi hz .i64 .i64 n n (by omega) (Int.le_refl _) hb' (by omega)
  simp only [Int.toNat_natCast, hs] at hr
  exact hr
theorem Try.sz5 : (Try.prog.info? 5).map (fun i => (i.zero.map (·.cells.size), i.size, i.bytes)) = some (some 1, 1, 1) := by kernel_rfl
theorem Try.size5 : (Try.prog.info? 5).map (·.size) = some 1 := by kernel_rfl

/-- A row of numbers that lies whole in block g. -/
theorem own_of_row {k : IntKind} {e : TypeId} {w : World} {base g n : Nat} {f : Nat → Int} (hg : w.heap[g]? = some (.cells (cs k n f).toArray e (0, 0))) (hb : base ≤ g) (hn : n ≤ 67108864) :
    w.ownsRow base e 1 (.slice (some ⟨g, 0, none⟩) n n) n (cs k n f) :=
  ⟨by simp [len_cs], .inr ⟨g, n, _, rfl, hb, hg, Nat.le_refl _, by unfold maxLen; omega, by simp [len_cs], by
    rw [List.take_of_length_le (by simp [len_cs])]⟩⟩

/-- 'copy' of a whole slice into a row as long -/
theorem copy_whole {t e : TypeId} (hu : Try.prog.underlying t = some (.slice e)) (hsz : (Try.prog.info? e).map (·.size) = some 1) {vs : List Value} (h1 : ∀ v ∈ vs, v.oneCell' = true) (a : Option Addr) (n cap : Nat) (hn : vs.length = n) (w : World)
    (hL : 0 < n → ∃ b o, a = some ⟨b, o, none⟩ ∧ b < w.heap.size ∧ ∀ j v, vs[j]? = some v → w.cell? ⟨b, o + j, none⟩ = some v) (l0 : List Value) (hc0 : l0.length = n) :
    ∃ w2, (Builtin.copy_ #[t, t] 3 #[.slice (some ⟨w.heap.size, 0, none⟩) n n, .slice a n cap]).run Try.prog (w.alloc (.cells l0.toArray e)) = .ok (.int .i64 n) w2 ∧ w2.heap[w.heap.size]? = some (.cells vs.toArray e (0, 0)) ∧ Below w.heap.size w w2 := by
  by_cases h0 : n = 0
  · subst h0
    refine ⟨_, run_copy_none (P := Try.prog) _ t t 3 e _ a 0 0 0 cap hu hsz rfl, ?_, (Below.refl _ _).alloc (Nat.le_refl _) _⟩
    obtain rfl := List.eq_nil_of_length_eq_zero hn
    obtain rfl := List.eq_nil_of_length_eq_zero hc0
    exact heap_new _ _
  · obtain ⟨b, o, rfl, hlt, hc⟩ := hL (by omega)
    have hB := (Below.refl w.heap.size w).alloc (Nat.le_refl _) (Obj.cells l0.toArray e)
    have hr := run_copy_row (P := Try.prog) (w.alloc (.cells l0.toArray e)) t t 3 e w.heap.size 0 n n ⟨b, o, none⟩ n cap l0.toArray e vs hu hsz (heap_new _ _) (by rw [hn]; exact (Nat.min_self n).symm) (fun j v hj => by rw [Addr.add_mid]; exact (hB.cell (p := ⟨b, o + j, none⟩) hlt).trans (hc j v hj)) (by simp; omega) h1
    refine ⟨_, by rw [hr, hn]; rfl, ?_, below_setRow hB (Nat.le_refl _) _⟩
    rw [setRow_heap _ _ _ _ _ _ (heap_new _ _)]
    congr 2
    simp [hn, hc0]

theorem src_of {k : IntKind} {w : World} {a : Option Addr} {n : Nat} {f : Nat → Int} (hL : BtAt k w a n f) : 0 < n → ∃ b o, a = some ⟨b, o, none⟩ ∧ b < w.heap.size ∧ ∀ j v, (cs k n f)[j]? = some v → w.cell? ⟨b, o + j, none⟩ = some v := fun hp => by
  obtain ⟨b, o, e, hlt, _⟩ := hL 0 hp
  refine ⟨b, o, e, hlt, fun j v hj => ?_⟩
  obtain ⟨hjn, rfl⟩ := lt_of_get hj
  obtain ⟨b', o', e', hlt', hc⟩ := hL j hjn
  rw [e] at e'
  cases e'
  exact hc

set_option maxHeartbeats 1000000 in
theorem clone7 (a : Option Addr) (n cap : Nat) (f : Nat → Int) (w : World) (hn : n ≤ 1048576) (hL : BtAt .u8 w a n f)
    (R : Ending → World → Prop) (hR : ∀ a' cap' w', w'.ownsRow w.heap.size 5 1 (.slice a' n cap') n (cs .u8 n f) → Below w.heap.size w w' → R (.returned (.slice a' n cap')) w') :
    Calls Try.prog 7 #[.slice a n cap] w R := by
  obtain ⟨c0, hc0, hmk⟩ := make_any Try.underlying22 Try.sz5 n (by omega) (by omega)
  have heq := fun (w : World) (a : Option Addr) (l c : Nat) => Lib.run_eql_slice_nil (P := Try.prog) w 22 5 a l c 0 0 Try.underlying22
  rcases a with _ | ad
  · have hn0 : n = 0 := by
      by_cases h : 0 < n
      · obtain ⟨b, o, e, _⟩ := hL 0 h; cases e
      · omega
    subst hn0
    go_enter Try.func7, Try.ntmps7
    go_wp2
    exact hR none 0 _ ⟨rfl, .inl ⟨rfl, rfl⟩⟩ (Below.refl _ _)
  · obtain ⟨l0, rfl⟩ : ∃ l : List Value, c0 = l.toArray := ⟨c0.toList, by simp⟩
    obtain ⟨w2, hcp, hg, hb⟩ := copy_whole Try.underlying22 Try.size5 (one_cs .u8 n f) (some ad) n cap (len_cs _ _ _) w (src_of hL) l0 (by simpa using hc0)
    have HG := hide hg
    clear hg hL
    go_enter Try.func7, Try.ntmps7
    go_wp2
    exact hR _ _ _ (own_of_row (unhide HG) (Nat.le_refl _) (by omega)) hb

end Go.Proofs.Qxb6605442a
