import Derived.Test.Qxb6605402aAcc
namespace Go.Proofs.Qxb6605402a
open Go.RowKit Go.Maps
set_option linter.unusedVariables false
set_option linter.unusedSimpArgs false
variable {w w' : World} {base s : Nat} {S : LD}

theorem bcellH {W w1 : World} (W0 : World) (hb : Below W.heap.size W w1) (e : W.heap = W0.heap) : (∀ b o, b < W0.heap.size → w1.cell? ⟨b, o, none⟩ = W0.cell? ⟨b, o, none⟩) ∧ (∀ b o, b < W0.heap.size → w1.frozen? ⟨b, o, none⟩ = W0.frozen? ⟨b, o, none⟩) ∧ Below W0.heap.size W w1 := by
  refine ⟨fun b o h => ?_, fun b o h => ?_, e ▸ hb⟩
  · rw [hb.cell (p := ⟨b, o, none⟩) (by rw [e]; exact h)]
    simp [World.cell?, e]
  · rw [hb.frozen (p := ⟨b, o, none⟩) (by rw [e]; exact h)]
    simp [World.frozen?, e]
theorem heap_new2 (w : World) (o o2 : Obj) : ((w.alloc o).alloc o2).heap[w.heap.size + 1]? = some o2 := by
  have := heap_new (w.alloc o) o2
  rwa [World.size_alloc] at this
theorem flatMap_congr {α β : Type} (l : List α) (f g : α → List β) (h : ∀ a, a ∈ l → f a = g a) : l.flatMap f = l.flatMap g := by
  induction l with
  | nil => rfl
  | cons x r ih =>
    rw [List.flatMap_cons, List.flatMap_cons, h x (by simp), ih (fun a ha => h a (by simp [ha]))]
theorem Row.type_inj {b t t' n n' : Nat} (h : Row w b t n) (h' : Row w b t' n') : t = t' := by
  obtain ⟨cs, h, _⟩ := h
  obtain ⟨cs', h', _⟩ := h'
  rw [h] at h'
  simp at h'
  exact h'.2
/-- the block of the untold list -/
theorem LS.ublock (h : LS w base s S) {g : Nat} (hg : S.uv.ownBlock = some g) : ∃ n, Row w g 87 n ∧ base ≤ g := by
  rcases h.own.2 with ⟨e, h0⟩ | ⟨g', cap, cur, e, hb, hh, _⟩
  · rw [e] at hg; cases hg
  · rw [e] at hg
    cases hg
    exact ⟨cur.size, ⟨cur, hh, rfl⟩, hb⟩
theorem LS.b_ne_s (h : LS w base s S) {i : Nat} (hi : i < S.m) : S.B i ≠ s := fun e => by
  have h1 := h.orow i hi
  rw [e] at h1
  have := h1.type_inj h.row
  omega
theorem LS.u_ne_s (h : LS w base s S) : S.uv.ownBlock ≠ some s := fun e => by
  obtain ⟨n, hr, _⟩ := h.ublock e
  have := hr.type_inj h.row
  omega
theorem LS.u_ne_b (h : LS w base s S) {i : Nat} (hi : i < S.m) : S.uv.ownBlock ≠ some (S.B i) := fun e => by
  obtain ⟨n, hr, _⟩ := h.ublock e
  have := hr.type_inj (h.orow i hi)
  omega
theorem LS.mv_ne_row (h : LS w base s S) {mb : Nat} (e : S.mv = some mb) {b t n : Nat} (hr : Row w b t n) : mb ≠ b := by
  rcases h.mp with ⟨e', _⟩ | ⟨mb', e', _, hm⟩
  · rw [e] at e'; cases e'
  · rw [e] at e'; cases e'; exact hm.ne_row hr
theorem LS.ltb (h : LS w base s S) {i : Nat} (hi : i < S.m) : S.B i < w.heap.size := (h.orow i hi).lt
theorem LS.ltu (h : LS w base s S) {g : Nat} (hg : S.uv.ownBlock = some g) : g < w.heap.size := by
  obtain ⟨n, hr, _⟩ := h.ublock hg; exact hr.lt
theorem LS.ltm (h : LS w base s S) {mb : Nat} (e : S.mv = some mb) : mb < w.heap.size := by
  rcases h.mp with ⟨e', _⟩ | ⟨mb', e', _, hm⟩
  · rw [e] at e'; cases e'
  · rw [e] at e'; cases e'; exact hm.lt
theorem cell_of_block {b o : Nat} (e : w'.heap[b]? = w.heap[b]?) : w'.cell? ⟨b, o, none⟩ = w.cell? ⟨b, o, none⟩ := World.cell?_of_block (w := w) e
theorem ownsRow_of_block {e size n : Nat} {v : Value} {xs : List Value} (h : w.ownsRow base e size v n xs) (hb : ∀ g, v.ownBlock = some g → w'.heap[g]? = w.heap[g]?) : w'.ownsRow base e size v n xs := by
  obtain ⟨h1, h2⟩ := h
  refine ⟨h1, ?_⟩
  rcases h2 with h2 | ⟨g, cap, cur, hv, hg, hh, r⟩
  · exact .inl h2
  · exact .inr ⟨g, cap, cur, hv, hg, (hb g (by rw [hv]; rfl)).trans hh, r⟩

/-- The lock set hangs on its own blocks alone. -/
theorem LS.of_blocks (h : LS w base s S) (es : w'.heap[s]? = w.heap[s]?) (eb : ∀ i, i < S.m → w'.heap[S.B i]? = w.heap[S.B i]?) (em : ∀ mb, S.mv = some mb → w'.heap[mb]? = w.heap[mb]?) (eu : ∀ g, S.uv.ownBlock = some g → w'.heap[g]? = w.heap[g]?) : LS w' base s S where
  hN := h.hN
  hm := h.hm
  hu := h.hu
  hbase := h.hbase
  row := h.row.of_block es
  ip i hi := (h.ip i hi).of_cells fun j => cell_of_block es
  cn := (cell_of_block es).trans h.cn
  cm := (cell_of_block es).trans h.cm
  cu := (cell_of_block es).trans h.cu
  mp := by
    rcases h.mp with h0 | ⟨mb, e, hb, hm⟩
    · exact .inl h0
    · exact .inr ⟨mb, e, hb, hm.of_block (em mb e)⟩
  orow i hi := (h.orow i hi).of_block (eb i hi)
  ohd i hi := (h.ohd i hi).of_cells fun j => cell_of_block (eb i hi)
  ofl i hi := (cell_of_block (eb i hi)).trans (h.ofl i hi)
  obase := h.obase
  inj := h.inj
  dist := h.dist
  klen := h.klen
  tlt := h.tlt
  own := ownsRow_of_block h.own eu
theorem LS.below (h : LS w base s S) (hb : Below w.heap.size w w') : LS w' base s S :=
  h.of_blocks (hb.block _ h.lt) (fun i hi => hb.block _ (h.ltb hi)) (fun mb e => hb.block _ (h.ltm e)) (fun g e => hb.block _ (h.ltu e))
theorem LS.alloc (h : LS w base s S) (o : Obj) : LS (w.alloc o) base s S := h.below ((Below.refl _ _).alloc (Nat.le_refl _) o)

/-- a lock among the others is written -/
def LD.setO (S : LD) (i : Nat) (h : Hold) (f : Bool) : LD := { S with O := fun j => if j = i then ⟨(S.O i).res, h⟩ else S.O j, F := fun j => if j = i then f else S.F j }
theorem LD.setO_res (S : LD) (i : Nat) (h : Hold) (f : Bool) (j : Nat) : ((S.setO i h f).O j).res = (S.O j).res := by
  simp only [LD.setO]
  split
  · rename_i e; rw [e]
  · rfl
theorem LD.setO_ucells (S : LD) (i : Nat) (h : Hold) (f : Bool) : (S.setO i h f).ucells = S.ucells := by
  have : ∀ j, ((S.setO i h f).O ((S.setO i h f).T j)).res = (S.O (S.T j)).res := fun j => S.setO_res i h f _
  simp only [LD.ucells, this]
  rfl
theorem LS.setO (h : LS w base s S) {i : Nat} (hi : i < S.m) (eo : ∀ b, b ≠ S.B i → w'.heap[b]? = w.heap[b]?) (hr : Row w' (S.B i) 82 9) {hd : Hold} (hh : HdAt w' (S.B i) 0 hd) {f : Bool} (hf : w'.cell? ⟨S.B i, 8, none⟩ = some (.bool f)) : LS w' base s (S.setO i hd f) where
  hN := h.hN
  hm := h.hm
  hu := h.hu
  hbase := h.hbase
  row := h.row.of_block (eo _ (h.b_ne_s hi).symm)
  ip j hj := (h.ip j hj).of_cells fun _ => cell_of_block (eo _ (h.b_ne_s hi).symm)
  cn := (cell_of_block (eo _ (h.b_ne_s hi).symm)).trans h.cn
  cm := (cell_of_block (eo _ (h.b_ne_s hi).symm)).trans h.cm
  cu := (cell_of_block (eo _ (h.b_ne_s hi).symm)).trans h.cu
  mp := by
    rcases h.mp with h0 | ⟨mb, e, hb, hm⟩
    · exact .inl h0
    · exact .inr ⟨mb, e, hb, (hm.of_block (eo mb (hm.ne_row (h.orow i hi)))).congr (fun j _ => S.setO_res i hd f j) (fun j _ => rfl)⟩
  orow j hj := by
    by_cases e : j = i
    · subst e; exact hr
    · exact (h.orow j hj).of_block (eo _ (fun e' => e (h.inj j i hj hi e')))
  ohd j hj := by
    show HdAt w' (S.B j) 0 ((S.setO i hd f).O j).hd
    by_cases e : j = i
    · subst e; simpa [LD.setO] using hh
    · have e1 : (S.setO i hd f).O j = S.O j := by simp [LD.setO, e]
      rw [e1]
      exact (h.ohd j hj).of_cells fun _ => cell_of_block (eo _ (fun e' => e (h.inj j i hj hi e')))
  ofl j hj := by
    show w'.cell? ⟨S.B j, 8, none⟩ = some (.bool ((S.setO i hd f).F j))
    by_cases e : j = i
    · subst e; simpa [LD.setO] using hf
    · have e1 : (S.setO i hd f).F j = S.F j := by simp [LD.setO, e]
      rw [e1]
      exact (cell_of_block (eo _ (fun e' => e (h.inj j i hj hi e')))).trans (h.ofl j hj)
  obase := h.obase
  inj := h.inj
  dist j k hj hk e := h.dist j k hj hk (by rw [S.setO_res, S.setO_res] at e; exact e)
  klen j hj := by rw [S.setO_res]; exact h.klen j hj
  tlt := h.tlt
  own := by
    rw [S.setO_ucells]
    exact ownsRow_of_block h.own (fun g e => eo g (fun e' => h.u_ne_b hi (by rw [← e']; exact e)))

/-- the set's own block is written: the locks in place, their number, the list -/
def LD.setS (S : LD) (N : Nat) (I : Nat → Lk) : LD := { S with N := N, I := I }
theorem LS.setS (h : LS w base s S) (eo : ∀ b, b ≠ s → w'.heap[b]? = w.heap[b]?) (hr : Row w' s 79 39) {N : Nat} {I : Nat → Lk} (hN : N ≤ 4) (ip : ∀ i, i < 4 → LkAt w' s (i * 9) (I i)) (cn : w'.cell? ⟨s, 36, none⟩ = some (.int .i64 (N : Int)))
    (cm : w'.cell? ⟨s, 37, none⟩ = some (.map S.mv)) (cu : w'.cell? ⟨s, 38, none⟩ = some S.uv) : LS w' base s (S.setS N I) where
  hN := hN
  hm := h.hm
  hu := h.hu
  hbase := h.hbase
  row := hr
  ip := ip
  cn := cn
  cm := cm
  cu := cu
  mp := by
    rcases h.mp with h0 | ⟨mb, e, hb, hm⟩
    · exact .inl h0
    · exact .inr ⟨mb, e, hb, hm.of_block (eo mb (hm.ne_row h.row))⟩
  orow i hi := (h.orow i hi).of_block (eo _ (h.b_ne_s hi))
  ohd i hi := (h.ohd i hi).of_cells fun _ => cell_of_block (eo _ (h.b_ne_s hi))
  ofl i hi := (cell_of_block (eo _ (h.b_ne_s hi))).trans (h.ofl i hi)
  obase := h.obase
  inj := h.inj
  dist := h.dist
  klen := h.klen
  tlt := h.tlt
  own := ownsRow_of_block h.own (fun g e => eo g (fun e' => h.u_ne_s (by rw [← e']; exact e)))

/-- the untold list is written -/
def LD.setU (S : LD) (u : Nat) (T : Nat → Nat) (uv : Value) : LD := { S with u := u, T := T, uv := uv }
theorem LS.setU (h : LS w base s S) {u : Nat} {T : Nat → Nat} {uv : Value} (es : ∀ o, o < 38 → w'.cell? ⟨s, o, none⟩ = w.cell? ⟨s, o, none⟩) (hr : Row w' s 79 39) (eb : ∀ i, i < S.m → w'.heap[S.B i]? = w.heap[S.B i]?) (em : ∀ mb, S.mv = some mb → w'.heap[mb]? = w.heap[mb]?)
    (hu : u ≤ 8192) (ht : ∀ j, j < u → T j < S.m) (cu : w'.cell? ⟨s, 38, none⟩ = some uv) (own : w'.ownsRow base 87 2 uv u (S.setU u T uv).ucells) : LS w' base s (S.setU u T uv) where
  hN := h.hN
  hm := h.hm
  hu := hu
  hbase := h.hbase
  row := hr
  ip i hi := LkAt.of_range fun j hj => (es _ (by omega)).trans ((h.ip i hi).range j hj)
  cn := (es _ (by omega)).trans h.cn
  cm := (es _ (by omega)).trans h.cm
  cu := cu
  mp := by
    rcases h.mp with h0 | ⟨mb, e, hb, hm⟩
    · exact .inl h0
    · exact .inr ⟨mb, e, hb, hm.of_block (em mb e)⟩
  orow i hi := (h.orow i hi).of_block (eb i hi)
  ohd i hi := (h.ohd i hi).of_cells fun j => cell_of_block (eb i hi)
  ofl i hi := (cell_of_block (eb i hi)).trans (h.ofl i hi)
  obase := h.obase
  inj := h.inj
  dist := h.dist
  klen := h.klen
  tlt := ht
  own := own

/-- a new lock among the others, at block b; the map lies at block mb -/
def LD.addO (S : LD) (l : Lk) (b mb : Nat) : LD := { S with m := S.m + 1, O := fun j => if j = S.m then l else S.O j, F := fun j => if j = S.m then false else S.F j, B := fun j => if j = S.m then b else S.B j, mv := some mb }
theorem LD.addO_O (S : LD) (l : Lk) (b mb : Nat) {j : Nat} (hj : j < S.m) : (S.addO l b mb).O j = S.O j := by simp [LD.addO, Nat.ne_of_lt hj]
theorem LD.addO_B (S : LD) (l : Lk) (b mb : Nat) {j : Nat} (hj : j < S.m) : (S.addO l b mb).B j = S.B j := by simp [LD.addO, Nat.ne_of_lt hj]
theorem LD.addO_F (S : LD) (l : Lk) (b mb : Nat) {j : Nat} (hj : j < S.m) : (S.addO l b mb).F j = S.F j := by simp [LD.addO, Nat.ne_of_lt hj]
theorem LD.addO_O' (S : LD) (l : Lk) (b mb : Nat) : (S.addO l b mb).O S.m = l := by simp [LD.addO]
theorem LD.addO_B' (S : LD) (l : Lk) (b mb : Nat) : (S.addO l b mb).B S.m = b := by simp [LD.addO]
theorem LD.addO_F' (S : LD) (l : Lk) (b mb : Nat) : (S.addO l b mb).F S.m = false := by simp [LD.addO]
theorem LD.addO_ucells (S : LD) (l : Lk) (b mb : Nat) (ht : ∀ j, j < S.u → S.T j < S.m) : (S.addO l b mb).ucells = S.ucells := by
  refine flatMap_congr _ _ _ fun j hj => ?_
  have := ht j (List.mem_range.1 hj)
  show [Value.string ((S.addO l b mb).O (S.T j)).res, Value.pointer (some ⟨(S.addO l b mb).B (S.T j), 0, none⟩)] = _
  rw [S.addO_O l b mb this, S.addO_B l b mb this]
theorem LS.addO (h : LS w base s S) {l : Lk} {b mb : Nat} (hm8 : S.m < 8192) (hl : l.res.size ≤ maxLen) (hnew : ∀ i, i < S.m → (S.O i).res ≠ l.res)
    (es : ∀ o, o ≠ 37 → w'.cell? ⟨s, o, none⟩ = w.cell? ⟨s, o, none⟩) (hr : Row w' s 79 39) (cm : w'.cell? ⟨s, 37, none⟩ = some (.map (some mb)))
    (eb : ∀ i, i < S.m → w'.heap[S.B i]? = w.heap[S.B i]?) (eu : ∀ g, S.uv.ownBlock = some g → w'.heap[g]? = w.heap[g]?)
    (hbb : base ≤ b) (hbn : ∀ i, i < S.m → S.B i ≠ b) (hrb : Row w' b 82 9) (hh : HdAt w' b 0 l.hd) (hf : w'.cell? ⟨b, 8, none⟩ = some (.bool false))
    (hmb : base ≤ mb) (hmp : MapIs w' mb (S.m + 1) (S.addO l b mb).O (S.addO l b mb).B) : LS w' base s (S.addO l b mb) where
  hN := h.hN
  hm := hm8
  hu := h.hu
  hbase := h.hbase
  row := hr
  ip i hi := LkAt.of_range fun j hj => (es _ (by omega)).trans ((h.ip i hi).range j hj)
  cn := (es _ (by omega)).trans h.cn
  cm := cm
  cu := (es _ (by omega)).trans h.cu
  mp := .inr ⟨mb, rfl, hmb, hmp⟩
  orow i hi := by
    have hi' : i < S.m + 1 := hi
    by_cases e : i = S.m
    · subst e; rw [S.addO_B']; exact hrb
    · rw [S.addO_B l b mb (by omega)]; exact (h.orow i (by omega)).of_block (eb i (by omega))
  ohd i hi := by
    have hi' : i < S.m + 1 := hi
    by_cases e : i = S.m
    · subst e; rw [S.addO_B', S.addO_O']; exact hh
    · rw [S.addO_B l b mb (by omega), S.addO_O l b mb (by omega)]; exact (h.ohd i (by omega)).of_cells fun j => cell_of_block (eb i (by omega))
  ofl i hi := by
    have hi' : i < S.m + 1 := hi
    by_cases e : i = S.m
    · subst e; rw [S.addO_B', S.addO_F']; exact hf
    · rw [S.addO_B l b mb (by omega), S.addO_F l b mb (by omega)]; exact (cell_of_block (eb i (by omega))).trans (h.ofl i (by omega))
  obase i hi := by
    have hi' : i < S.m + 1 := hi
    by_cases e : i = S.m
    · subst e; rw [S.addO_B']; exact hbb
    · rw [S.addO_B l b mb (by omega)]; exact h.obase i (by omega)
  inj i j hi hj e := by
    have hi' : i < S.m + 1 := hi
    have hj' : j < S.m + 1 := hj
    by_cases ei : i = S.m
    · by_cases ej : j = S.m
      · omega
      · subst ei
        rw [S.addO_B', S.addO_B l b mb (by omega)] at e
        exact (hbn j (by omega) e.symm).elim
    · by_cases ej : j = S.m
      · subst ej
        rw [S.addO_B', S.addO_B l b mb (by omega)] at e
        exact (hbn i (by omega) e).elim
      · rw [S.addO_B l b mb (by omega), S.addO_B l b mb (by omega)] at e
        exact h.inj i j (by omega) (by omega) e
  dist i j hi hj e := by
    have hi' : i < S.m + 1 := hi
    have hj' : j < S.m + 1 := hj
    by_cases ei : i = S.m
    · by_cases ej : j = S.m
      · omega
      · subst ei
        rw [S.addO_O', S.addO_O l b mb (by omega)] at e
        exact (hnew j (by omega) e.symm).elim
    · by_cases ej : j = S.m
      · subst ej
        rw [S.addO_O', S.addO_O l b mb (by omega)] at e
        exact (hnew i (by omega) e).elim
      · rw [S.addO_O l b mb (by omega), S.addO_O l b mb (by omega)] at e
        exact h.dist i j (by omega) (by omega) e
  klen i hi := by
    have hi' : i < S.m + 1 := hi
    by_cases e : i = S.m
    · subst e; rw [S.addO_O']; exact hl
    · rw [S.addO_O l b mb (by omega)]; exact h.klen i (by omega)
  tlt j hj := Nat.lt_succ_of_lt (h.tlt j hj)
  own := by
    rw [S.addO_ucells l b mb h.tlt]
    exact ownsRow_of_block h.own eu

end Go.Proofs.Qxb6605402a
