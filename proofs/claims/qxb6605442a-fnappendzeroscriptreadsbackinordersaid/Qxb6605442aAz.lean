import Derived.Test.Qxb6605442aRd
namespace Go.Proofs.Qxb6605442a
open Go.RowKit
set_option linter.unusedVariables false
set_option linter.unusedSimpArgs false

theorem pat_pos (vt : Int) : 2 ≤ (pat vt).length ∧ (pat vt).length ≤ 18 := by
  unfold pat; repeat' split
  all_goals simp

set_option maxRecDepth 4000 in
theorem rz10 (vt : Int) (a : Option Addr) (n cap at' : Nat) (f : Nat → Int) (w : World) (hn : n ≤ 67108864) (hL : BtAt .u8 w a n f) (hat : at' + (pat vt).length ≤ n) (h0 : ∀ j, j < (pat vt).length → f (at' + j) = (pat vt).getD j 0)
    (R : Ending → World → Prop) (hR : R (.returned (.tuple #[.int .u8 (zt vt), .int .i64 ((at' : Int) + (pat vt).length), .bool true])) w) :
    Calls Try.prog 10 #[.slice a n cap, .int .i64 at'] w R := by
  by_cases h1 : vt = 126
  · subst h1
    exact rz126 a n cap at' f w hn hL (by simpa [pat] using hat) (h0 0 (by simp [pat])) (h0 1 (by simp [pat])) R (by simpa [pat, zt] using hR)
  by_cases h2 : vt = 125
  · subst h2
    refine rz125 a n cap at' f w hn hL (by simpa [pat] using hat) (h0 0 (by simp [pat])) (fun j hj => ?_) R (by simpa [pat, zt] using hR)
    have := h0 (1 + j) (by simp [pat]; omega)
    rw [Nat.add_assoc, this]
    match j, hj with | 0, _ | 1, _ | 2, _ | 3, _ => rfl
  by_cases h3 : vt = 124
  · subst h3
    refine rz124 a n cap at' f w hn hL (by simpa [pat] using hat) (h0 0 (by simp [pat])) (fun j hj => ?_) R (by simpa [pat, zt] using hR)
    have := h0 (1 + j) (by simp [pat]; omega)
    rw [Nat.add_assoc, this]
    match j, hj with | 0, _ | 1, _ | 2, _ | 3, _ | 4, _ | 5, _ | 6, _ | 7, _ => rfl
  by_cases h4 : vt = 123
  · subst h4
    refine rz123 a n cap at' f w hn hL (by simpa [pat] using hat) (h0 0 (by simp [pat])) (h0 1 (by simp [pat])) (fun j hj => ?_) R (by simpa [pat, zt] using hR)
    have := h0 (2 + j) (by simp [pat]; omega)
    rw [Nat.add_assoc, this]
    have e : ∀ j, j < 16 → (pat 123).getD (2 + j) 0 = 0 := by decide
    exact e j hj
  by_cases h5 : vt = 112
  · subst h5
    exact rz112 a n cap at' f w hn hL (by simpa [pat] using hat) (h0 0 (by simp [pat])) (h0 1 (by simp [pat])) R (by simpa [pat, zt] using hR)
  by_cases h6 : vt = 111
  · subst h6
    exact rz111 a n cap at' f w hn hL (by simpa [pat] using hat) (h0 0 (by simp [pat])) (h0 1 (by simp [pat])) R (by simpa [pat, zt] using hR)
  · have e : pat vt = [65, 0] := by simp [pat, h1, h2, h3, h4, h5, h6]
    have ez : zt vt = 127 := by simp [zt, h1, h2, h3, h4, h5, h6]
    rw [e] at hat h0 hR
    rw [ez] at hR
    exact rz127 a n cap at' f w hn hL (by simpa using hat) (h0 0 (by simp)) (h0 1 (by simp)) R hR

/-- The numbers f of n, the list l behind. -/
def ext (f : Nat → Int) (n : Nat) (l : List Int) : Nat → Int := fun i => if i < n then f i else l.getD (i - n) 0
theorem cs_ext (k : IntKind) (f : Nat → Int) (n : Nat) (l : List Int) : cs k (n + l.length) (ext f n l) = cs k n f ++ l.map (Value.int k) := by
  apply List.ext_getElem?
  intro i
  by_cases h1 : i < n
  · rw [get_cs _ _ _ (by omega), List.getElem?_append_left (by rw [len_cs]; exact h1), get_cs _ _ _ h1]
    simp [ext, h1]
  · rw [List.getElem?_append_right (by rw [len_cs]; omega), len_cs]
    by_cases h2 : i < n + l.length
    · rw [get_cs _ _ _ h2]
      have h3 : i - n < l.length := by omega
      simp [ext, h1, h3]
    · rw [List.getElem?_eq_none (by rw [len_cs]; omega), List.getElem?_eq_none (by simp; omega)]

theorem news_of {e : TypeId} {w : World} {g0 : Nat} {l : List Value} (hg : w.heap[g0]? = some (.cells l.toArray e)) : ∀ (j : Nat) (u : Value), l[j]? = some u → w.cell? ((⟨g0, 0, none⟩ : Addr).add j) = some u := by
  intro j u hu
  rw [Addr.add_mid, Nat.zero_add, cell_of_heap hg]
  simpa using hu
theorem one_ints (l : List Int) : ∀ u ∈ l.map (Value.int .u8), u.oneCell' = true := by
  intro u hu
  obtain ⟨i, _, rfl⟩ := List.mem_map.1 hu
  rfl

/-- 'append(v, ..)' of bytes written out -/
theorem wpList_appb {w : World} {ops : Array Oper} {rest : List Oper} {o : Oper} {a : Act} {Q : Exit → Act → World → Prop} (hgd : o.guard = none) (s x : Operand)
    (ho : o.op = .call { callee := .builtin .append, args := #[s, x], argTypes := #[22, 22] })
    (base : Nat) (ao : Option Addr) (n cap : Nat) (f : Nat → Int) (hs : a.eval s = .slice ao n cap) (hown : w.ownsRow base 5 1 (.slice ao n cap) n (cs .u8 n f))
    (g0 m : Nat) (l : List Int) (hl : l.length = m) (hm : 0 < m) (hx : a.eval x = .slice (some ⟨g0, 0, none⟩) m m) (hg : w.heap[g0]? = some (.cells (l.map (Value.int .u8)).toArray 5))
    (hn : n + m ≤ 67108864) (hbase : base ≤ w.heap.size) (H : Nat) (hH : w.heap.size = H)
    (h : ∀ g cap' w', w'.ownsRow base 5 1 (.slice (some ⟨g, 0, none⟩) (n + m) cap') (n + m) (cs .u8 (n + m) (ext f n l)) → w.grownBy w' (Value.slice ao n cap).ownBlock → ((Value.slice ao n cap).ownBlock = some g ∨ g = H) → wpList Try.prog ops Q rest (a.put o.dst (.slice (some ⟨g, 0, none⟩) (n + m) cap')) w') : wpList Try.prog ops Q (o :: rest) a w := by
  obtain ⟨i, hi, hz, hsz, hby⟩ := info5
  subst hl
  refine wpList_append_lies w hgd s x 22 ho base 5 i _ 1 1 Try.underlying22 hi hz hsz hby rfl (by omega) _ n _ hs hown ⟨g0, 0, none⟩ l.length l.length (l.map (Value.int .u8)) hx (by simp) (news_of hg) (one_ints l) hm (by unfold maxLen; omega) (by omega) hbase H hH fun g cap' w' h1 h2 h3 _ => h g cap' w' ?_ h2 h3
  rw [cs_ext]
  exact h1
theorem ext_ext (f : Nat → Int) (n : Nat) (l r : List Int) : ext (ext f n l) (n + l.length) r = ext f n (l ++ r) := by
  funext i
  unfold ext
  by_cases h1 : i < n
  · rw [if_pos (by omega), if_pos h1, if_pos h1]
  · by_cases h2 : i < n + l.length
    · rw [if_pos h2, if_neg h1, if_neg h1]
      simp [List.getD, List.getElem?_append_left (show i - n < l.length by omega)]
    · rw [if_neg h2, if_neg h1]
      simp only [List.getD]
      rw [List.getElem?_append_right (by omega)]
      congr 2
      omega
theorem wpList_appzb {w : World} {ops : Array Oper} {rest : List Oper} {o : Oper} {a : Act} {Q : Exit → Act → World → Prop} (hgd : o.guard = none) (s x : Operand)
    (ho : o.op = .call { callee := .builtin .append, args := #[s, x], argTypes := #[22, 3] })
    (base g n cap : Nat) (f : Nat → Int) (hs : a.eval s = .slice (some ⟨g, 0, none⟩) n cap) (hown : w.ownsRow base 5 1 (.slice (some ⟨g, 0, none⟩) n cap) n (cs .u8 n f))
    (hx : a.eval x = .int .i64 16) (hn : n + 16 ≤ 67108864) (hbase : base ≤ w.heap.size)
    (h : ∀ g' cap' w', w'.ownsRow base 5 1 (.slice (some ⟨g', 0, none⟩) (n + 16) cap') (n + 16) (cs .u8 (n + 16) (ext f n (List.replicate 16 0))) → w.grownBy w' (some g) → (g' = g ∨ g' = w.heap.size) → wpList Try.prog ops Q rest (a.put o.dst (.slice (some ⟨g', 0, none⟩) (n + 16) cap')) w') : wpList Try.prog ops Q (o :: rest) a w := by
  obtain ⟨i, hi, hz, hsz, hby⟩ := info5
  refine wpList_appz hgd s x 22 3 ho base 5 .i64 i _ Try.underlying22 Try.underlying3 hi hz hsz hby rfl rfl g n cap _ hs hown 16 hx (by omega) (by omega) hbase fun g' cap' w' h1 h2 h3 => h g' cap' w' ?_ h2 h3
  have e := cs_ext .u8 f n (List.replicate 16 0)
  rw [List.map_replicate, List.length_replicate] at e
  rw [e]
  exact h1

theorem World.grownBy.of_alloc {w w' : World} {o : Obj} {row : Option Nat} (h : (w.alloc o).grownBy w' row) : w.grownBy w' row :=
  ⟨h.os, h.tape, h.output, Nat.le_trans (by simp) h.size, fun k hk hne => (h.block k (by simp; omega) hne).trans (Below.heap_alloc w o k hk)⟩

set_option maxHeartbeats 1000000 in
theorem az126 (base : Nat) (ao : Option Addr) (n cap : Nat) (f : Nat → Int) (w : World) (hn : n + 18 ≤ 67108864) (hown : w.ownsRow base 5 1 (.slice ao n cap) n (cs .u8 n f)) (hbase : base ≤ w.heap.size)
    (R : Ending → World → Prop) (hR : ∀ g cap' w', w'.ownsRow base 5 1 (.slice (some ⟨g, 0, none⟩) (n + 2) cap') (n + 2) (cs .u8 (n + 2) (ext f n [66, 0])) → w.grownBy w' (Value.slice ao n cap).ownBlock → R (.returned (.slice (some ⟨g, 0, none⟩) (n + 2) cap')) w') :
    Calls Try.prog 18 #[.slice ao n cap, .int .u8 126] w R := by
  have HO := hide hown
  clear hown
  have HB : Hid (∀ o, base ≤ (w.alloc o).heap.size) := fun o => by simp; omega
  go_enter Try.func18, Try.ntmps18
  go_wp2_with (at_builtin; refine wpList_appb rfl (.tmp 8) (.tmp 9) rfl base ao n cap f rfl ((unhide HO).alloc _) w.heap.size 2 [66, 0] rfl (by omega) rfl (heap_new _ _) (by omega) (unhide HB _) _ rfl ?_; intro g cap' w' h1 h2 h3; have H1 := hide (And.intro h1 h2); clear h1 h2 h3)
  refine hR _ _ _ (unhide H1).1 ?_
  exact World.grownBy.of_alloc (unhide H1).2

set_option maxHeartbeats 1000000 in
theorem az125 (base : Nat) (ao : Option Addr) (n cap : Nat) (f : Nat → Int) (w : World) (hn : n + 18 ≤ 67108864) (hown : w.ownsRow base 5 1 (.slice ao n cap) n (cs .u8 n f)) (hbase : base ≤ w.heap.size)
    (R : Ending → World → Prop) (hR : ∀ g cap' w', w'.ownsRow base 5 1 (.slice (some ⟨g, 0, none⟩) (n + 5) cap') (n + 5) (cs .u8 (n + 5) (ext f n [67, 0, 0, 0, 0])) → w.grownBy w' (Value.slice ao n cap).ownBlock → R (.returned (.slice (some ⟨g, 0, none⟩) (n + 5) cap')) w') :
    Calls Try.prog 18 #[.slice ao n cap, .int .u8 125] w R := by
  have HO := hide hown
  clear hown
  have HB : Hid (∀ o, base ≤ (w.alloc o).heap.size) := fun o => by simp; omega
  go_enter Try.func18, Try.ntmps18
  go_wp2_with (at_builtin; refine wpList_appb rfl (.tmp 13) (.tmp 14) rfl base ao n cap f rfl ((unhide HO).alloc _) w.heap.size 5 [67, 0, 0, 0, 0] rfl (by omega) rfl (heap_new _ _) (by omega) (unhide HB _) _ rfl ?_; intro g cap' w' h1 h2 h3; have H1 := hide (And.intro h1 h2); clear h1 h2 h3)
  refine hR _ _ _ (unhide H1).1 ?_
  exact World.grownBy.of_alloc (unhide H1).2

set_option maxHeartbeats 1000000 in
theorem az124 (base : Nat) (ao : Option Addr) (n cap : Nat) (f : Nat → Int) (w : World) (hn : n + 18 ≤ 67108864) (hown : w.ownsRow base 5 1 (.slice ao n cap) n (cs .u8 n f)) (hbase : base ≤ w.heap.size)
    (R : Ending → World → Prop) (hR : ∀ g cap' w', w'.ownsRow base 5 1 (.slice (some ⟨g, 0, none⟩) (n + 9) cap') (n + 9) (cs .u8 (n + 9) (ext f n [68, 0, 0, 0, 0, 0, 0, 0, 0])) → w.grownBy w' (Value.slice ao n cap).ownBlock → R (.returned (.slice (some ⟨g, 0, none⟩) (n + 9) cap')) w') :
    Calls Try.prog 18 #[.slice ao n cap, .int .u8 124] w R := by
  have HO := hide hown
  clear hown
  have HB : Hid (∀ o, base ≤ (w.alloc o).heap.size) := fun o => by simp; omega
  go_enter Try.func18, Try.ntmps18
  go_wp2_with (at_builtin; refine wpList_appb rfl (.tmp 18) (.tmp 19) rfl base ao n cap f rfl ((unhide HO).alloc _) w.heap.size 9 [68, 0, 0, 0, 0, 0, 0, 0, 0] rfl (by omega) rfl (heap_new _ _) (by omega) (unhide HB _) _ rfl ?_; intro g cap' w' h1 h2 h3; have H1 := hide (And.intro h1 h2); clear h1 h2 h3)
  refine hR _ _ _ (unhide H1).1 ?_
  exact World.grownBy.of_alloc (unhide H1).2

set_option maxHeartbeats 1000000 in
theorem az112 (base : Nat) (ao : Option Addr) (n cap : Nat) (f : Nat → Int) (w : World) (hn : n + 18 ≤ 67108864) (hown : w.ownsRow base 5 1 (.slice ao n cap) n (cs .u8 n f)) (hbase : base ≤ w.heap.size)
    (R : Ending → World → Prop) (hR : ∀ g cap' w', w'.ownsRow base 5 1 (.slice (some ⟨g, 0, none⟩) (n + 2) cap') (n + 2) (cs .u8 (n + 2) (ext f n [208, 112])) → w.grownBy w' (Value.slice ao n cap).ownBlock → R (.returned (.slice (some ⟨g, 0, none⟩) (n + 2) cap')) w') :
    Calls Try.prog 18 #[.slice ao n cap, .int .u8 112] w R := by
  have HO := hide hown
  clear hown
  have HB : Hid (∀ o, base ≤ (w.alloc o).heap.size) := fun o => by simp; omega
  go_enter Try.func18, Try.ntmps18
  go_wp2_with (at_builtin; refine wpList_appb rfl (.tmp 30) (.tmp 32) rfl base ao n cap f rfl ((unhide HO).alloc _) w.heap.size 2 [208, 112] rfl (by omega) rfl (heap_new _ _) (by omega) (unhide HB _) _ rfl ?_; intro g cap' w' h1 h2 h3; have H1 := hide (And.intro h1 h2); clear h1 h2 h3)
  refine hR _ _ _ (unhide H1).1 ?_
  exact World.grownBy.of_alloc (unhide H1).2

set_option maxHeartbeats 1000000 in
theorem az111 (base : Nat) (ao : Option Addr) (n cap : Nat) (f : Nat → Int) (w : World) (hn : n + 18 ≤ 67108864) (hown : w.ownsRow base 5 1 (.slice ao n cap) n (cs .u8 n f)) (hbase : base ≤ w.heap.size)
    (R : Ending → World → Prop) (hR : ∀ g cap' w', w'.ownsRow base 5 1 (.slice (some ⟨g, 0, none⟩) (n + 2) cap') (n + 2) (cs .u8 (n + 2) (ext f n [208, 111])) → w.grownBy w' (Value.slice ao n cap).ownBlock → R (.returned (.slice (some ⟨g, 0, none⟩) (n + 2) cap')) w') :
    Calls Try.prog 18 #[.slice ao n cap, .int .u8 111] w R := by
  have HO := hide hown
  clear hown
  have HB : Hid (∀ o, base ≤ (w.alloc o).heap.size) := fun o => by simp; omega
  go_enter Try.func18, Try.ntmps18
  go_wp2_with (at_builtin; refine wpList_appb rfl (.tmp 30) (.tmp 32) rfl base ao n cap f rfl ((unhide HO).alloc _) w.heap.size 2 [208, 111] rfl (by omega) rfl (heap_new _ _) (by omega) (unhide HB _) _ rfl ?_; intro g cap' w' h1 h2 h3; have H1 := hide (And.intro h1 h2); clear h1 h2 h3)
  refine hR _ _ _ (unhide H1).1 ?_
  exact World.grownBy.of_alloc (unhide H1).2

set_option maxHeartbeats 1000000 in
theorem az127 (base : Nat) (ao : Option Addr) (n cap : Nat) (f : Nat → Int) (vt : Int) (w : World) (hn : n + 18 ≤ 67108864) (hown : w.ownsRow base 5 1 (.slice ao n cap) n (cs .u8 n f)) (hbase : base ≤ w.heap.size) (h1 : vt ≠ 126) (h2 : vt ≠ 125) (h3 : vt ≠ 124) (h4 : vt ≠ 123) (h5 : vt ≠ 112) (h6 : vt ≠ 111)
    (R : Ending → World → Prop) (hR : ∀ g cap' w', w'.ownsRow base 5 1 (.slice (some ⟨g, 0, none⟩) (n + 2) cap') (n + 2) (cs .u8 (n + 2) (ext f n [65, 0])) → w.grownBy w' (Value.slice ao n cap).ownBlock → R (.returned (.slice (some ⟨g, 0, none⟩) (n + 2) cap')) w') :
    Calls Try.prog 18 #[.slice ao n cap, .int .u8 vt] w R := by
  have HO := hide hown
  clear hown
  have HB : Hid (∀ o, base ≤ (w.alloc o).heap.size) := fun o => by simp; omega
  go_enter Try.func18, Try.ntmps18
  go_wp2_with (at_builtin; refine wpList_appb rfl (.tmp 34) (.tmp 35) rfl base ao n cap f rfl ((unhide HO).alloc _) w.heap.size 2 [65, 0] rfl (by omega) rfl (heap_new _ _) (by omega) (unhide HB _) _ rfl ?_; intro g cap' w' k1 k2 k3; have H1 := hide (And.intro k1 k2); clear k1 k2 k3)
  refine hR _ _ _ (unhide H1).1 ?_
  exact World.grownBy.of_alloc (unhide H1).2

theorem own_blk {w : World} {base : Nat} {ao : Option Addr} {n cap : Nat} {xs : List Value} (h : w.ownsRow base 5 1 (.slice ao n cap) n xs) {k : Nat} (hk : (Value.slice ao n cap).ownBlock = some k) : base ≤ k ∧ k < w.heap.size := by
  rcases h.2 with ⟨e, _⟩ | ⟨g, c, cur, e, hb, hg, _⟩
  · cases e; cases hk
  · cases e
    cases hk
    exact ⟨hb, (Array.getElem?_eq_some_iff.1 hg).1⟩

set_option maxHeartbeats 1000000 in
theorem az123 (base : Nat) (ao : Option Addr) (n cap : Nat) (f : Nat → Int) (w : World) (hn : n + 18 ≤ 67108864) (hown : w.ownsRow base 5 1 (.slice ao n cap) n (cs .u8 n f)) (hbase : base ≤ w.heap.size)
    (R : Ending → World → Prop) (hR : ∀ g cap' w', w'.ownsRow base 5 1 (.slice (some ⟨g, 0, none⟩) (n + 18) cap') (n + 18) (cs .u8 (n + 18) (ext f n (pat 123))) → w.grownBy w' (Value.slice ao n cap).ownBlock → R (.returned (.slice (some ⟨g, 0, none⟩) (n + 18) cap')) w') :
    Calls Try.prog 18 #[.slice ao n cap, .int .u8 123] w R := by
  have HO := hide hown
  clear hown
  have HB : Hid (∀ o, base ≤ (w.alloc o).heap.size) := fun o => by simp; omega
  have HR := hide hR
  clear hR
  go_enter Try.func18, Try.ntmps18
  go_wp2_with (first
    | (at_builtin; refine wpList_appb rfl (.tmp 23) (.tmp 24) rfl base ao n cap f rfl ((unhide HO).alloc _) w.heap.size 2 [253, 12] rfl (by omega) rfl (heap_new _ _) (by omega) (unhide HB _) _ rfl ?_; intro g cap' w' h1 h2 h3; have H1 := hide (And.intro h1 (And.intro h2 h3)); clear h1 h2 h3)
    | (at_builtin; refine wpList_appzb rfl (.tmp 25) (.const (.int .i64 16)) rfl base g (n + 2) cap' (ext f n [253, 12]) rfl (unhide H1).1 rfl (by omega) (Nat.le_trans (unhide HB _) (unhide H1).2.1.size) ?_; intro g2 cap2 w2 k1 k2 k3; have H2 := hide (And.intro k1 (And.intro k2 k3)); clear k1 k2 k3))
  refine unhide HR _ _ _ ?_ ?_
  · have e := (unhide H2).1
    have e2 := ext_ext f n [253, 12] (List.replicate 16 0)
    have e3 : n + 2 = n + ([253, 12] : List Int).length := rfl
    rw [e3, e2] at e
    exact e
  · have a1 := (unhide H1).2.1
    have a2 := (unhide H2).2.1
    have a3 := (unhide H1).2.2
    refine ⟨a2.os.trans a1.os, a2.tape.trans a1.tape, a2.output.trans a1.output, Nat.le_trans (Nat.le_trans (by simp) a1.size) a2.size, fun k hk hne => ?_⟩
    have hk1 : k < (w.alloc (Obj.cells #[Value.int IntKind.u8 253, Value.int IntKind.u8 12] 5)).heap.size := by simp; omega
    have hg : some k ≠ some g := by
      intro e
      rcases a3 with a3 | a3
      · exact hne (e.trans a3.symm)
      · cases e; simp at a3; omega
    exact (a2.block k (Nat.lt_of_lt_of_le hk1 a1.size) hg).trans ((a1.block k hk1 hne).trans (Below.heap_alloc w _ k hk))

theorem az18 (vt : Int) (base : Nat) (ao : Option Addr) (n cap : Nat) (f : Nat → Int) (w : World) (hn : n + 18 ≤ 67108864) (hown : w.ownsRow base 5 1 (.slice ao n cap) n (cs .u8 n f)) (hbase : base ≤ w.heap.size)
    (R : Ending → World → Prop) (hR : ∀ g cap' w', w'.ownsRow base 5 1 (.slice (some ⟨g, 0, none⟩) (n + (pat vt).length) cap') (n + (pat vt).length) (cs .u8 (n + (pat vt).length) (ext f n (pat vt))) → w.grownBy w' (Value.slice ao n cap).ownBlock → R (.returned (.slice (some ⟨g, 0, none⟩) (n + (pat vt).length) cap')) w') :
    Calls Try.prog 18 #[.slice ao n cap, .int .u8 vt] w R := by
  by_cases h1 : vt = 126
  · subst h1; exact az126 base ao n cap f w hn hown hbase R hR
  by_cases h2 : vt = 125
  · subst h2; exact az125 base ao n cap f w hn hown hbase R hR
  by_cases h3 : vt = 124
  · subst h3; exact az124 base ao n cap f w hn hown hbase R hR
  by_cases h4 : vt = 123
  · subst h4; exact az123 base ao n cap f w hn hown hbase R hR
  by_cases h5 : vt = 112
  · subst h5; exact az112 base ao n cap f w hn hown hbase R hR
  by_cases h6 : vt = 111
  · subst h6; exact az111 base ao n cap f w hn hown hbase R hR
  have e : pat vt = [65, 0] := by simp [pat, h1, h2, h3, h4, h5, h6]
  rw [e] at hR
  exact az127 base ao n cap f vt w hn hown hbase h1 h2 h3 h4 h5 h6 R hR

/-- ZZAppendZero -/
theorem az8 (vt : Int) (base : Nat) (ao : Option Addr) (n cap : Nat) (f : Nat → Int) (w : World) (hn : n + 18 ≤ 67108864) (hown : w.ownsRow base 5 1 (.slice ao n cap) n (cs .u8 n f)) (hbase : base ≤ w.heap.size)
    (R : Ending → World → Prop) (hR : ∀ g cap' w', w'.ownsRow base 5 1 (.slice (some ⟨g, 0, none⟩) (n + (pat vt).length) cap') (n + (pat vt).length) (cs .u8 (n + (pat vt).length) (ext f n (pat vt))) → w.grownBy w' (Value.slice ao n cap).ownBlock → R (.returned (.slice (some ⟨g, 0, none⟩) (n + (pat vt).length) cap')) w') :
    Calls Try.prog 8 #[.slice ao n cap, .int .u8 vt] w R := by
  have HO := hide hown
  have HR := hide hR
  clear hR hown
  go_enter Try.func8, Try.ntmps8
  go_wp2_with (go_at_call 18; refine az18 vt base ao n cap f w hn (unhide HO) hbase _ (fun g cap' w' h1 h2 => ?_); have H1 := hide (And.intro h1 h2); clear h1 h2)
  exact unhide HR _ _ _ (unhide H1).1 (unhide H1).2

end Go.Proofs.Qxb6605442a
