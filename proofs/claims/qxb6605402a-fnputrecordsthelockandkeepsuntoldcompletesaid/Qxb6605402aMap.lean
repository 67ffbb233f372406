import Derived.Test.Qxb6605402aBase
import Derived.Maps.OwnSet
namespace Go.Proofs.Qxb6605402a
open Go.RowKit Go.Maps
set_option linter.unusedVariables false
set_option linter.unusedSimpArgs false

/-- How a map's element reads here: a nil pointer, or the number of the block that it leads to. -/
def ptrElem : Value → Option (DataW Unit × List MemPlace)
  | .pointer none => some (.nil, [])
  | .pointer (some ⟨b, 0, none⟩) => some (.lit (.int .i64 b), [])
  | _ => none
theorem ptrElem_nil : ptrElem (.pointer none) = some (.nil, []) := rfl
theorem ptrElem_mk (b : Nat) : ptrElem (.pointer (some ⟨b, 0, none⟩)) = some (.lit (.int .i64 b), []) := rfl
theorem ptrElem_inv {v : Value} {b : Nat} {ps : List MemPlace} (h : ptrElem v = some (.lit (.int .i64 (b : Int)), ps)) : v = .pointer (some ⟨b, 0, none⟩) := by
  unfold ptrElem at h
  split at h
  · simp at h
  · rename_i b'
    simp at h
    have : b' = b := by omega
    rw [this]
  · cases h
theorem ptrElem_inv_nil {v : Value} {ps : List MemPlace} (h : ptrElem v = some (.nil, ps)) : v = .pointer none := by
  unfold ptrElem at h
  split at h
  · rfl
  · simp at h
  · cases h

def ky (r : ByteArray) : Lit := .string r.data.toList
theorem ky_inj {r r' : ByteArray} (h : ky r = ky r') : r = r' := by
  simp only [ky, Lit.string.injEq] at h
  exact ByteArray.ext (Array.toList_inj.1 h)
theorem ky_key {r : ByteArray} (h : r.size ≤ maxLen) : keyOf Try.prog 9 (.string r) = some (ky r) := WideMaps.keyOf_string_mk Try.underlying9 h
theorem ky_lit {r : ByteArray} : WideAt.IsKeyLit (ky r) := by
  trivial
theorem law9 : Keyed Try.prog 9 := string_keyed Try.underlying9
theorem zero80 (w : World) : (zeroValue 80).run Try.prog w = .ok (.pointer none) w := by kernel_rfl

/-- Block mb is a map of just the m keys 'O i', each leading to block 'B i'. -/
def MapIs (w : World) (mb m : Nat) (O : Nat → Lk) (B : Nat → Nat) : Prop :=
  ∃ D : DataW Unit, w.ownsMap Try.prog 9 ptrElem mb m D ∧ Maps.size D = m ∧ (∀ i, i < m → ∀ z, D.atKey (ky (O i).res) z = .lit (.int .i64 (B i : Int))) ∧ ∀ r : ByteArray, (∀ i, i < m → (O i).res ≠ r) → Maps.has D (ky r) = false

theorem MapIs.made (w : World) (O : Nat → Lk) (B : Nat → Nat) : MapIs (w.alloc (.map #[] 0)) w.heap.size 0 O B :=
  ⟨.map [], World.ownsMap_made _ _ _ _, rfl, fun i h => by omega, fun r _ => rfl⟩
theorem MapIs.of_block {w w' : World} {mb m : Nat} {O : Nat → Lk} {B : Nat → Nat} (h : MapIs w mb m O B) (e : w'.heap[mb]? = w.heap[mb]?) : MapIs w' mb m O B := by
  obtain ⟨D, ⟨es, clock, hb, r⟩, h1, h2, h3⟩ := h
  exact ⟨D, ⟨es, clock, e.trans hb, r⟩, h1, h2, h3⟩
theorem MapIs.lt {w : World} {mb m : Nat} {O : Nat → Lk} {B : Nat → Nat} (h : MapIs w mb m O B) : mb < w.heap.size := by
  obtain ⟨D, h0, _⟩ := h; exact h0.lt
theorem MapIs.isMap {w : World} {mb m : Nat} {O : Nat → Lk} {B : Nat → Nat} (h : MapIs w mb m O B) : ∃ es clock, w.heap[mb]? = some (.map es clock) := by
  obtain ⟨D, ⟨es, clock, hb, r⟩, _⟩ := h
  exact ⟨es, clock, hb⟩
theorem MapIs.ne_row {w : World} {mb m : Nat} {O : Nat → Lk} {B : Nat → Nat} (h : MapIs w mb m O B) {b t n : Nat} (hr : Row w b t n) : mb ≠ b := by
  obtain ⟨es, clock, hb⟩ := h.isMap
  obtain ⟨cs, hc, _⟩ := hr
  intro e; subst e; rw [hb] at hc; cases hc
theorem MapIs.congr {w : World} {mb m : Nat} {O O' : Nat → Lk} {B B' : Nat → Nat} (h : MapIs w mb m O B) (ho : ∀ i, i < m → (O' i).res = (O i).res) (hb : ∀ i, i < m → B' i = B i) : MapIs w mb m O' B' := by
  obtain ⟨D, h0, h1, h2, h3⟩ := h
  exact ⟨D, h0, h1, fun i hi z => by rw [ho i hi, hb i hi]; exact h2 i hi z, fun r hr => h3 r (fun i hi => by rw [← ho i hi]; exact hr i hi)⟩
theorem MapIs.hit {w : World} {mb m : Nat} {O : Nat → Lk} {B : Nat → Nat} (h : MapIs w mb m O B) {i : Nat} (hi : i < m) (hl : (O i).res.size ≤ maxLen) :
    (Instr.lookup 76 (.map (some mb)) (.string (O i).res) false).run Try.prog w = .ok (.pointer (some ⟨B i, 0, none⟩)) w := by
  obtain ⟨D, h0, h1, h2, h3⟩ := h
  obtain ⟨v, ps, hrun, hv⟩ := h0.lookup law9 Try.underlying76 (zero80 w) ptrElem_nil (ky_key hl)
  rw [h2 i hi] at hv
  rw [hrun, ptrElem_inv hv]
theorem MapIs.miss {w : World} {mb m : Nat} {O : Nat → Lk} {B : Nat → Nat} (h : MapIs w mb m O B) {r : ByteArray} (hr : ∀ i, i < m → (O i).res ≠ r) (hl : r.size ≤ maxLen) :
    (Instr.lookup 76 (.map (some mb)) (.string r) false).run Try.prog w = .ok (.pointer none) w := by
  obtain ⟨D, h0, h1, h2, h3⟩ := h
  obtain ⟨v, ps, hrun, hv⟩ := h0.lookup law9 Try.underlying76 (zero80 w) ptrElem_nil (ky_key hl)
  rw [atKey_of_not_has (h3 r hr)] at hv
  rw [hrun, ptrElem_inv_nil hv]
theorem nil_miss {w : World} {r : ByteArray} (hl : r.size ≤ maxLen) : (Instr.lookup 76 (.map none) (.string r) false).run Try.prog w = .ok (.pointer none) w := by
  simpa using Maps.look_nil (w := w) false law9 Try.underlying76 (zero80 w) (ky_key hl)
theorem MapIs.len {w : World} {mb m : Nat} {O : Nat → Lk} {B : Nat → Nat} (h : MapIs w mb m O B) (ty : TypeId) : (Builtin.len_ #[76] ty #[.map (some mb)]).run Try.prog w = .ok (.int .i64 (m : Int)) w := by
  obtain ⟨D, h0, h1, h2, h3⟩ := h
  rw [h0.len Try.underlying76 ty, h1]
theorem MapIs.put {w : World} {mb m : Nat} {O : Nat → Lk} {B : Nat → Nat} (h : MapIs w mb m O B) {r : ByteArray} (hr : ∀ i, i < m → (O i).res ≠ r) (hl : r.size ≤ maxLen) (hm : m < maxLen) (b : Nat)
    {O' : Nat → Lk} {B' : Nat → Nat} (ho : ∀ i, i < m → (O' i).res = (O i).res) (hb : ∀ i, i < m → B' i = B i) (ho' : (O' m).res = r) (hb' : B' m = b) :
    ∃ w', (Instr.mapUpdate 76 (.map (some mb)) (.string r) (.pointer (some ⟨b, 0, none⟩))).run Try.prog w = .ok () w' ∧ MapIs w' mb (m + 1) O' B' ∧ w.grownBy w' (some mb) := by
  obtain ⟨D, h0, h1, h2, h3⟩ := h
  obtain ⟨w', hrun, hown, hg⟩ := h0.update law9 Try.underlying76 hm (ky_key hl) (ptrElem_mk b)
  refine ⟨w', hrun, ⟨_, hown, ?_, fun i hi z => ?_, fun q hq => ?_⟩, hg⟩
  · rw [size_put (h0.tidy law9), h3 r hr, h1]; rfl
  · by_cases e : i = m
    · subst e
      rw [ho', atKey_put_same h0.isMap ky_lit, hb']
    · rw [ho i (by omega), atKey_put_other (fun e' => hr i (by omega) (ky_inj e')), hb i (by omega)]
      exact h2 i (by omega) z
  · have hne : r ≠ q := ho' ▸ hq m (by omega)
    rw [has_put_other (fun e' => hne (ky_inj e').symm)]
    exact h3 q (fun i hi => by rw [← ho i hi]; exact hq i (by omega))

end Go.Proofs.Qxb6605402a
