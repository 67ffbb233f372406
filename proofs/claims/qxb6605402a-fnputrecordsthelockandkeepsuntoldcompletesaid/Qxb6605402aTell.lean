import Derived.Test.Qxb6605402aTl
namespace Go.Proofs.Qxb6605402a
open Go.RowKit Go.Maps
set_option linter.unusedVariables false
set_option linter.unusedSimpArgs false

/-- while the locks in place are told -/
structure TI (w wr : World) (base s : Nat) (S : LD) (k : Nat) (v : Value) : Prop where
  ls : LS wr base s (S.tellI k)
  own : wr.ownsRow w.heap.size 68 2 v (rep S.I k).length (pairCells (rep S.I k))
  bel : Below base w wr
  sz : w.heap.size ≤ wr.heap.size

theorem TI.skip {w wr : World} {base s : Nat} {S : LD} {k : Nat} {v : Value} (h : TI w wr base s S k v) (hd : due (S.I k) = false) : TI w wr base s S (k + 1) v := by
  obtain ⟨h1, h2, h3, h4⟩ := h
  have e : rep S.I (k + 1) = rep S.I k := by rw [rep_succ]; simp [due1, hd]
  exact ⟨(S.tellI_not k hd) ▸ h1, by rw [e]; exact h2, h3, h4⟩

theorem grow_old {w wr w1 : World} {v : Value} {n : Nat} {xs : List Value} {o : Obj} {e : TypeId} (hown : wr.ownsRow w.heap.size e 2 v n xs) (hsz : w.heap.size ≤ wr.heap.size) (hg : (wr.alloc o).drew.grownBy w1 v.ownBlock) : ∀ x, x < w.heap.size → w1.heap[x]? = wr.heap[x]? := fun x hx =>
  (hg.block x (by simp; omega) (fun e' => by have := (hown.lt x e'.symm).1; omega)).trans (Below.heap_alloc wr _ x (by omega))
theorem grow_below {w wr w1 : World} {base : Nat} {v : Value} {n : Nat} {xs : List Value} {o : Obj} {e : TypeId} (hb : base ≤ w.heap.size) (hown : wr.ownsRow w.heap.size e 2 v n xs) (hsz : w.heap.size ≤ wr.heap.size) (hbel : Below base w wr) (hg : (wr.alloc o).drew.grownBy w1 v.ownBlock) : Below base w w1 :=
  ((hbel.alloc (by omega) o).drew).grown hg (by simp; omega) (fun k hk => by have := (hown.lt k hk).1; omega)
theorem TI.push {w wr w1 : World} {base s : Nat} {S : LD} {k : Nat} {v : Value} (h : TI w wr base s S k v) (hb : base ≤ w.heap.size) (f : Foot S s w.heap.size) (hd : due (S.I k) = true) (hk : k < 4) {g cap : Nat} {o : Obj}
    (hown : w1.ownsRow w.heap.size 68 2 (.slice (some ⟨g, 0, none⟩) ((rep S.I k).length + 1) cap) ((rep S.I k).length + 1) (pairCells (rep S.I k) ++ [.string (S.I k).res, .string (S.I k).hd.mode])) (hg : (wr.alloc o).drew.grownBy w1 v.ownBlock) :
    TI w (w1.setCell ⟨s, k * 9 + 5, none⟩ (.bool true)) base s S (k + 1) (.slice (some ⟨g, 0, none⟩) ((rep S.I k).length + 1) cap) := by
  have old := grow_old h.own h.sz hg
  have h1 : LS w1 base s (S.tellI k) := h.ls.keep ⟨f.s, f.b, f.m, f.u⟩ old
  have h2 := h1.setI hk (by rw [S.tellI_I]; exact hd)
  rw [S.tellI_due] at h2
  have hsz : w.heap.size ≤ w1.heap.size := by have := hg.size; have := h.sz; simp at *; omega
  have e : rep S.I (k + 1) = rep S.I k ++ [((S.I k).res, (S.I k).hd.mode)] := by rw [rep_succ]; simp [due1, hd]
  refine ⟨h2, ?_, (grow_below hb h.own h.sz h.bel hg).setCell h.ls.hbase _, by simp; exact hsz⟩
  rw [e, pairCells_append, List.length_append]
  exact ownsRow_setCell_below hown f.s _

/-- while the untold others are told -/
structure TO (w wr : World) (base s : Nat) (S : LD) (G : List (ByteArray × ByteArray)) (j : Nat) (v : Value) : Prop where
  ls : LS wr base s (S.tellO j)
  own : wr.ownsRow w.heap.size 68 2 v (G ++ rep (fun x => S.O (S.T x)) j).length (pairCells (G ++ rep (fun x => S.O (S.T x)) j))
  bel : Below base w wr
  sz : w.heap.size ≤ wr.heap.size
theorem LD.tellO_fresh (S : LD) (j : Nat) (hi : ∀ x, x < j → S.T x ≠ S.T j) : (S.tellO j).O (S.T j) = S.O (S.T j) ∧ (S.tellO j).F (S.T j) = S.F (S.T j) := by
  have h0 : inT S.T j (S.T j) = false := by
    rw [Bool.eq_false_iff]; intro h; obtain ⟨x, hx, e⟩ := (inT_iff _ _ _).1 h; exact hi x hx e
  simp [LD.tellO, h0]

theorem TO.at {w wr : World} {base s : Nat} {S : LD} {G : List (ByteArray × ByteArray)} {j : Nat} {v : Value} (h : TO w wr base s (S.tellI S.N) G j v) (h0 : LS w base s S) (hinj : ∀ i j, i < j → j < S.u → S.T i ≠ S.T j) (hlt : j < S.u) :
    ∃ g cap, S.uv = .slice (some ⟨g, 0, none⟩) S.u cap ∧ wr.cell? ⟨g, j * 2, none⟩ = some (.string (S.O (S.T j)).res) ∧ wr.cell? ⟨g, j * 2 + 1, none⟩ = some (.pointer (some ⟨S.B (S.T j), 0, none⟩)) ∧
      wr.cell? ⟨S.B (S.T j), 0, none⟩ = some (.string (S.O (S.T j)).hd.mode) ∧ wr.cell? ⟨S.B (S.T j), 3, none⟩ = some (.bool (S.O (S.T j)).hd.loc) ∧ wr.cell? ⟨S.B (S.T j), 4, none⟩ = some (.bool (S.O (S.T j)).hd.tol) ∧
      wr.cell? ⟨S.B (S.T j), 8, none⟩ = some (.bool (S.F (S.T j))) ∧ (∀ o, wr.frozen? ⟨S.B (S.T j), o, none⟩ = false) ∧ S.B (S.T j) < wr.heap.size ∧ S.B (S.T j) < w.heap.size := by
  obtain ⟨g, cap, huv, u0, u1⟩ := h.ls.uat (j := j) hlt
  obtain ⟨fr1, fr2⟩ := (S.tellI S.N).tellO_fresh j (fun x hx => hinj x j hx hlt)
  have htm : S.T j < S.m := h0.tlt j hlt
  have hh := h.ls.ohd (S.T j) htm
  have cf := h.ls.ofl (S.T j) htm
  replace u0 : wr.cell? ⟨g, j * 2, none⟩ = some (.string (((S.tellI S.N).tellO j).O ((S.tellI S.N).T j)).res) := u0
  replace hh : HdAt wr (S.B (S.T j)) 0 (((S.tellI S.N).tellO j).O ((S.tellI S.N).T j)).hd := hh
  replace cf : wr.cell? ⟨S.B (S.T j), 8, none⟩ = some (.bool (((S.tellI S.N).tellO j).F ((S.tellI S.N).T j))) := cf
  rw [fr1] at u0 hh
  rw [fr2] at cf
  exact ⟨g, cap, huv, u0, u1, hh.c0, hh.c3, hh.c4, cf, (h.ls.orow (S.T j) htm).fz, h.ls.ltb htm, h0.ltb htm⟩

theorem LS.foot' {w : World} {base s : Nat} {S : LD} (h : LS w base s S) : Foot (S.tellI S.N) s w.heap.size := ⟨h.foot.s, h.foot.b, h.foot.m, h.foot.u⟩
theorem tld_not_due {l : Lk} (h : due l = false) : tld l.hd = l.hd := congrArg Lk.hd (tldL_not_due h)
theorem tld_due {l : Lk} (h : due l = true) : tld l.hd = { l.hd with tol := true } := congrArg Lk.hd (tldL_due h)
theorem TO.skip {w wr : World} {base s : Nat} {S : LD} {G : List (ByteArray × ByteArray)} {j : Nat} {v : Value} (h : TO w wr base s S G j v) (hinj : ∀ x, x < j → S.T x ≠ S.T j) (htm : S.T j < S.m) (hd : due (S.O (S.T j)) = false) (blt : S.B (S.T j) < w.heap.size) (hb : base ≤ w.heap.size) (o : Obj) :
    TO w ((wr.setCell ⟨S.B (S.T j), 8, none⟩ (.bool false)).alloc o) base s S G (j + 1) v := by
  obtain ⟨fr1, fr2⟩ := S.tellO_fresh j hinj
  have h1 := h.ls.setFlag (i := S.T j) htm false
  rw [fr1, ← tld_not_due hd, S.tellO_succ j hinj] at h1
  have e : rep (fun x => S.O (S.T x)) (j + 1) = rep (fun x => S.O (S.T x)) j := by rw [rep_succ]; simp [due1, hd]
  refine ⟨h1.alloc o, ?_, (h.bel.setCell (p := ⟨S.B (S.T j), 8, none⟩) (h.ls.obase _ htm) _).alloc (by have := h.sz; simp; omega) o, by have := h.sz; simp; omega⟩
  rw [e]
  exact (ownsRow_setCell_below h.own blt _).alloc o
theorem TO.push {w wr w1 : World} {base s : Nat} {S : LD} {G : List (ByteArray × ByteArray)} {j : Nat} {v : Value} (h : TO w wr base s S G j v) (f : Foot S s w.heap.size) (hinj : ∀ x, x < j → S.T x ≠ S.T j) (htm : S.T j < S.m) (hd : due (S.O (S.T j)) = true) (blt : S.B (S.T j) < w.heap.size) (hb : base ≤ w.heap.size) {o o2 : Obj} {g cap : Nat}
    (hown : w1.ownsRow w.heap.size 68 2 (.slice (some ⟨g, 0, none⟩) ((G ++ rep (fun x => S.O (S.T x)) j).length + 1) cap) ((G ++ rep (fun x => S.O (S.T x)) j).length + 1) (pairCells (G ++ rep (fun x => S.O (S.T x)) j) ++ [.string (S.O (S.T j)).res, .string (S.O (S.T j)).hd.mode]))
    (hg : (((wr.setCell ⟨S.B (S.T j), 8, none⟩ (.bool false)).alloc o).alloc o2).drew.grownBy w1 v.ownBlock) :
    TO w (w1.setCell ⟨S.B (S.T j), 4, none⟩ (.bool true)) base s S G (j + 1) (.slice (some ⟨g, 0, none⟩) ((G ++ rep (fun x => S.O (S.T x)) j).length + 1) cap) := by
  obtain ⟨fr1, fr2⟩ := S.tellO_fresh j hinj
  have hsz := h.sz
  have h1 := h.ls.setFlag (i := S.T j) htm false
  have own1 := (ownsRow_setCell_below h.own (a := ⟨S.B (S.T j), 8, none⟩) blt (.bool false)).alloc o
  have hsz1 : w.heap.size ≤ ((wr.setCell ⟨S.B (S.T j), 8, none⟩ (.bool false)).alloc o).heap.size := by simp; omega
  have old := grow_old own1 hsz1 hg
  have h2 : LS w1 base s _ := (h1.alloc o).keep (B := w.heap.size) ⟨f.s, f.b, f.m, f.u⟩ old
  have h3 := h2.setTold (i := S.T j) htm
  rw [LD.setO_O, LD.setO_F, LD.setO_setO, fr1] at h3
  replace h3 : LS (w1.setCell ⟨S.B (S.T j), 4, none⟩ (.bool true)) base s ((S.tellO j).setO (S.T j) { (S.O (S.T j)).hd with tol := true } false) := h3
  rw [← tld_due hd, S.tellO_succ j hinj] at h3
  have e : rep (fun x => S.O (S.T x)) (j + 1) = rep (fun x => S.O (S.T x)) j ++ [((S.O (S.T j)).res, (S.O (S.T j)).hd.mode)] := by rw [rep_succ]; simp [due1, hd]
  have b1 : Below base w ((wr.setCell ⟨S.B (S.T j), 8, none⟩ (.bool false)).alloc o) := (h.bel.setCell (p := ⟨S.B (S.T j), 8, none⟩) (h.ls.obase _ htm) _).alloc (by simp; omega) o
  have hs2 := hg.size
  refine ⟨h3, ?_, (grow_below hb own1 hsz1 b1 hg).setCell (p := ⟨S.B (S.T j), 4, none⟩) (h.ls.obase _ htm) _, by simp at hs2 ⊢; omega⟩
  have e3 : (G ++ rep (fun x => S.O (S.T x)) j ++ [((S.O (S.T j)).res, (S.O (S.T j)).hd.mode)]).length = (G ++ rep (fun x => S.O (S.T x)) j).length + 1 := by
    generalize G ++ rep (fun x => S.O (S.T x)) j = Z
    rw [List.length_append]; rfl
  rw [e, ← List.append_assoc, pairCells_append, e3]
  exact ownsRow_setCell_below hown (a := ⟨S.B (S.T j), 4, none⟩) blt _

theorem run_slice77 (a : Option Addr) (u cap : Nat) (w : World) : (Instr.sliceAt 77 (.slice a u cap) none (some (.int .i64 0)) none).run Try.prog w = .ok (.slice a 0 cap) w := by
  obtain ⟨i, hi, hz⟩ := Option.map_eq_some_iff.1 Try.info87
  have e : (if cap = 0 then a else a.map (·.add (0 * i.size))) = a := by
    split
    · rfl
    · cases a <;> simp [Addr.add]
  simp [Instr.sliceAt, Instr.slice, run_underlying Try.underlying77, Instr.sliceBounds, Instr.sliceBound, asIntOf, sizeOf, typeInfo, hi]
  simpa using e
theorem TO.done {w wr w1 : World} {base s : Nat} {S : LD} {G : List (ByteArray × ByteArray)} {v : Value} (h : TO w wr base s S G S.u v) (f : Foot S s w.heap.size) {a : Option Addr} {cap : Nat} (huv : S.uv = .slice a S.u cap)
    (hown : w1.ownsRow base 87 2 (.slice a 0 cap) 0 []) (hg : wr.grownBy w1 (Value.slice a S.u cap).ownBlock) :
    LS (w1.setCell ⟨s, 38, none⟩ (.slice a 0 cap)) base s ((S.tellO S.u).setU 0 S.T (.slice a 0 cap)) ∧ (w1.setCell ⟨s, 38, none⟩ (.slice a 0 cap)).ownsRow w.heap.size 68 2 v (G ++ rep (fun x => S.O (S.T x)) S.u).length (pairCells (G ++ rep (fun x => S.O (S.T x)) S.u)) ∧ Below base w (w1.setCell ⟨s, 38, none⟩ (.slice a 0 cap)) ∧ w.heap.size ≤ (w1.setCell ⟨s, 38, none⟩ (.slice a 0 cap)).heap.size := by
  have hls := h.ls
  have huv' : (S.tellO S.u).uv = .slice a S.u cap := huv
  have es : w1.heap[s]? = wr.heap[s]? := hg.block s hls.lt (fun e => hls.u_ne_s (by rw [huv']; exact e.symm))
  have hr : Row w1 s 79 39 := hls.row.of_block es
  have hs := hg.size
  have hsz := h.sz
  have ub : ∀ g, (Value.slice a S.u cap).ownBlock = some g → g < w.heap.size := fun g e => f.u g (by rw [huv]; exact e)
  refine ⟨hls.setU (fun o ho => (setCell_cell_other (.inr (by omega))).trans (cell_of_block es)) (hr.setCell _ _) (fun i hi => ?_) (fun mb e => ?_) (by omega) (fun j hj => absurd hj (Nat.not_lt_zero _)) (setCell_cell_same hr (by omega)) ?_, ?_, ?_, by simp; omega⟩
  · exact (setCell_other (b := s) _ _ (hls.b_ne_s hi)).trans (hg.block _ (hls.ltb hi) (fun e => hls.u_ne_b hi (by rw [huv']; exact e.symm)))
  · refine (setCell_other (b := s) _ _ (hls.mv_ne_row e hls.row)).trans (hg.block _ (hls.ltm e) (fun e' => ?_))
    obtain ⟨n, hr', _⟩ := hls.ublock (g := mb) (by rw [huv']; exact e'.symm)
    exact hls.mv_ne_row e hr' rfl
  · exact ownsRow_of_block hown (fun g e => setCell_other (b := s) _ _ (fun e' => hls.u_ne_s (by have e2 : g = s := e'; rw [huv', ← e2]; cases a with | none => cases e | some x => exact e)))
  · refine ownsRow_of_block h.own (fun g e => ?_)
    have hlt := h.own.lt g e
    have := f.s
    exact (setCell_other (b := s) _ _ (by show g ≠ s; omega)).trans (hg.block g hlt.2 (fun e' => by have := ub g e'.symm; omega))
  · exact (h.bel.grown hg (Nat.le_trans hls.hbase (Nat.le_of_lt hls.lt)) (fun k hk => by obtain ⟨_, _, hb⟩ := hls.ublock (g := k) (by rw [huv']; exact hk); exact hb)).setCell (p := ⟨s, 38, none⟩) hls.hbase _

set_option maxRecDepth 100000 in
set_option maxHeartbeats 2000000 in
/-- tell -/
theorem tell36 (w : World) (base s : Nat) (S : LD) (h : LS w base s S) (hb0 : base ≤ w.heap.size) (hinj : ∀ i j, i < j → j < S.u → S.T i ≠ S.T j)
    (R : Ending → World → Prop) (hR : ∀ v w' uv, uv.ownBlock = S.uv.ownBlock → w'.ownsRow w.heap.size 68 2 v (rep S.I S.N ++ rep (fun j => S.O (S.T j)) S.u).length (pairCells (rep S.I S.N ++ rep (fun j => S.O (S.T j)) S.u)) → LS w' base s (((S.tellI S.N).tellO S.u).setU 0 S.T uv) → Below base w w' → w.heap.size ≤ w'.heap.size → R (.returned v) w') :
    Calls Try.prog 36 #[.pointer (some ⟨s, 0, none⟩)] w R := by
  have hN := h.hN
  have cn := h.cn
  have gN : (S.N : Int) ≤ 4 := by omega
  have gN0 : 0 ≤ (S.N : Int) := by omega
  have HH := hide h
  clear h
  go_enter Try.func36, Try.ntmps36
  go_wp2
  go_quiet (fail)
  go_wp2
  go_loopg [3, 17] S.N (fun g v i wr => ∃ k : Nat, k + g = S.N ∧ i = .int .i64 k ∧ TI w wr base s S k v)
  case atStart =>
    refine ⟨0, by omega, rfl, ?_, ?_, Below_drewN (Below.refl _ _) _, Nat.le_refl _⟩
    · rw [S.tellI_zero]; exact HH.out.below (Below_drewN (Below.refl _ _) _)
    · exact World.ownsRow_nil _ _ _ _
  case round =>
    obtain ⟨k, hk, rfl, hti⟩ := hrel
    by_cases hlt : k < S.N
    · have hc := hti.ls.ip k (by omega)
      rw [S.tellI_I] at hc
      have c0 := hc.c0
      have c1 := hc.c1
      have c4 := hc.c4
      have c5 := hc.c5
      have slt : s < wr.heap.size := hti.ls.lt
      have fz := hti.ls.row.fz
      have hk' : (k : Int) < 4 := by omega
      have HT := hide hti
      have hbs := hti.sz
      clear hti hc
      generalize hlo : (S.I k).hd.loc = lo at c4
      generalize hto : (S.I k).hd.tol = tt at c5
      have HD : Hid (due (S.I k) = (lo && !tt)) := by show ((S.I k).hd.loc && !(S.I k).hd.tol) = _; rw [hlo, hto]
      have nu : Hid (u3.ownBlock ≠ some s) := fun e => by have := (HT.out.own.lt s e).1; have := HH.out.lt; omega
      have hlr : (rep S.I k).length ≤ 16384 := by have := rep_len S.I k; omega
      clear hlo hto
      cases lo
      · go_wp2
        go_roundg (gk - 1)
        case rel => exact ⟨k + 1, by omega, by go_num, HT.out.skip HD.out⟩
        case measure => omega
      · cases tt
        · go_wp2
          go_region_held_law (fun w' => w'.cell? ⟨s, k * 9, none⟩ = some (.string (S.I k).res) ∧ w'.cell? ⟨s, k * 9 + 1, none⟩ = some (.string (S.I k).hd.mode)) (go_keep)
            ((refine step_app2 Try.underlying64 Try.info68 (by omega) rfl _ _ rfl w.heap.size _ _ _ rfl (HT.out.own.alloc _) wr.heap.size _ _ rfl rfl rfl (heap_new _ _) hlr (by simp; omega) (fun g cap w1 hown2 hgrow2 hat2 hlt2 => ?_); have es := (hgrow2.block s (by simp; omega) (fun e => nu.out e.symm)).trans (Below.heap_alloc wr _ s slt); have d0 := (cell_of_block (o := k * 9) es).trans c0; have d1 := (cell_of_block (o := k * 9 + 1) es).trans c1; have d5 := (cell_of_block (o := k * 9 + 5) es).trans c5; have f5 := (World.frozen?_of_block (a := ⟨s, k * 9 + 5, none⟩) es).trans (fz _); have HA := hide (And.intro hown2 (And.intro hgrow2 hat2)); clear hown2 hgrow2 hat2 es))
          go_wp2
          go_roundg (gk - 1)
          case rel => exact ⟨k + 1, by omega, by go_num, HT.out.push hb0 HH.out.foot HD.out (by omega) HA.out.1 HA.out.2.1⟩
          case measure => omega
        · go_wp2
          go_roundg (gk - 1)
          case rel => exact ⟨k + 1, by omega, by go_num, HT.out.skip HD.out⟩
          case measure => omega
    · obtain rfl : k = S.N := by omega
      have hls := hti.ls
      obtain ⟨a, cap, huv⟩ := hls.uslice
      replace huv : S.uv = .slice a S.u cap := huv
      have cu : wr.cell? ⟨s, 38, none⟩ = some (.slice a S.u cap) := by rw [← huv]; exact hls.cu
      have HT := hide hti
      have HUV := hide huv
      clear hti hls huv hk hlt cn
      go_wp2
      go_loopg [3, 61] S.u (fun g v i wr => ∃ j : Nat, j + g = S.u ∧ i = .int .i64 j ∧ TO w wr base s (S.tellI S.N) (rep S.I S.N) j v)
      case atStart =>
        refine ⟨0, by omega, rfl, ?_, ?_, HT.out.bel, HT.out.sz⟩
        · rw [LD.tellO_zero]; exact HT.out.ls
        · simpa [rep] using HT.out.own
      case round =>
        clear HT cu
        obtain ⟨j, hj, rfl, hto⟩ := hrel
        by_cases hlt : j < S.u
        · obtain ⟨g, cap', huv', u0, u1, c0, c3, c4, cf, fz, blt, blt0⟩ := hto.at HH.out hinj hlt
          rw [HUV.out] at huv'
          injection huv' with ha _ hcap
          subst ha
          subst hcap
          have htm : S.T j < S.m := HH.out.tlt j hlt
          have hu8 := HH.out.hu
          have hsz := hto.sz
          have hown1 := hto.own
          have nu1 : Hid (u3.ownBlock ≠ some (S.B (S.T j))) := fun e => by have := (hown1.lt _ e).1; omega
          have nu2 : Hid (u3.ownBlock ≠ some wr.heap.size) := fun e => by have := (hown1.lt _ e).2; omega
          have hlr : (rep S.I S.N ++ rep (fun x => S.O (S.T x)) j).length ≤ 16384 := by
            have h1 := rep_len S.I S.N
            have h2 := rep_len (fun x => S.O (S.T x)) j
            have h3 := HH.out.hu
            rw [List.length_append]; omega
          have hown2 := ownsRow_setCell_below hown1 (a := ⟨S.B (S.T j), 8, none⟩) blt0 (.bool false)
          have HT := hide hto
          have HO := hide hown2
          clear hto hown1 hown2
          generalize hlo : (S.O (S.T j)).hd.loc = lo at c3
          generalize hto : (S.O (S.T j)).hd.tol = tt at c4
          have HD : Hid (due (S.O (S.T j)) = (lo && !tt)) := by show ((S.O (S.T j)).hd.loc && !(S.O (S.T j)).hd.tol) = _; rw [hlo, hto]
          clear hlo hto
          cases lo
          · go_wp2
            go_roundg (gk - 1)
            case rel => exact ⟨j + 1, by omega, by go_num, HT.out.skip (fun x hx => hinj x j hx hlt) htm HD.out blt0 hb0 _⟩
            case measure => omega
          · cases tt
            · go_wp2
              have y0 : ((wr.setCell ⟨S.B (S.T j), 8, none⟩ (.bool false)).alloc (.cells #[.string (S.O (S.T j)).res, .pointer (some ⟨S.B (S.T j), 0, none⟩)] 87)).cell? ⟨wr.heap.size, 0, none⟩ = some (.string (S.O (S.T j)).res) := cell_of_heap (heap_newE _ _ _ (by simp)) 0
              have y1 : ((wr.setCell ⟨S.B (S.T j), 8, none⟩ (.bool false)).alloc (.cells #[.string (S.O (S.T j)).res, .pointer (some ⟨S.B (S.T j), 0, none⟩)] 87)).cell? ⟨wr.heap.size, 1, none⟩ = some (.pointer (some ⟨S.B (S.T j), 0, none⟩)) := cell_of_heap (heap_newE _ _ _ (by simp)) 1
              have y2 : ((wr.setCell ⟨S.B (S.T j), 8, none⟩ (.bool false)).alloc (.cells #[.string (S.O (S.T j)).res, .pointer (some ⟨S.B (S.T j), 0, none⟩)] 87)).cell? ⟨S.B (S.T j), 0, none⟩ = some (.string (S.O (S.T j)).hd.mode) := (cell_of_block (Below.heap_alloc _ _ _ (by simp; omega))).trans ((setCell_cell_other (.inr (by omega))).trans c0)
              go_region_held_law (fun w' => w'.cell? ⟨wr.heap.size, 0, none⟩ = some (.string (S.O (S.T j)).res) ∧ w'.cell? ⟨wr.heap.size, 1, none⟩ = some (.pointer (some ⟨S.B (S.T j), 0, none⟩)) ∧ w'.cell? ⟨S.B (S.T j), 0, none⟩ = some (.string (S.O (S.T j)).hd.mode)) (go_keep)
                ((refine step_app2 Try.underlying64 Try.info68 (by omega) rfl _ _ rfl w.heap.size _ _ _ rfl ((HO.out.alloc _).alloc _) (wr.heap.size + 1) _ _ rfl rfl rfl (heap_newE _ _ _ (by simp)) hlr (by simp; omega) (fun g' cap' w1 hown2 hgrow2 hat2 hlt2 => ?_); have es := (hgrow2.block (S.B (S.T j)) (by simp; omega) (fun e => nu1.out e.symm)).trans ((Below.heap_alloc _ _ _ (by simp; omega)).trans (Below.heap_alloc _ _ _ (by simp; omega))); have es2 := (hgrow2.block wr.heap.size (by simp; omega) (fun e => nu2.out e.symm)).trans ((Below.heap_alloc _ _ _ (by simp)).trans (heap_newE _ _ _ (by simp))); have d0 := (cell_of_block (o := 0) es).trans ((setCell_cell_other (.inr (by omega))).trans c0); have d4 := (cell_of_block (o := 4) es).trans ((setCell_cell_other (.inr (by omega))).trans c4); have f4 := (World.frozen?_of_block (a := ⟨S.B (S.T j), 4, none⟩) es).trans ((World.frozen?_setCell _ _ _ _).trans (fz _)); have x0 := (cell_of_heap es2 0).trans rfl; have x1 := (cell_of_heap es2 1).trans rfl; have HA := hide (And.intro hown2 (And.intro hgrow2 hat2)); clear hown2 hgrow2 hat2 es es2))
              go_wp2
              have hp := HT.out.push HH.out.foot' (fun x hx => hinj x j hx hlt) htm HD.out blt0 hb0 HA.out.1 HA.out.2.1
              rw [List.length_append] at hp
              go_roundg (gk - 1)
              case rel => exact ⟨j + 1, by omega, by go_num, hp⟩
              case measure => omega
            · go_wp2
              go_roundg (gk - 1)
              case rel => exact ⟨j + 1, by omega, by go_num, HT.out.skip (fun x hx => hinj x j hx hlt) htm HD.out blt0 hb0 _⟩
              case measure => omega
        · obtain rfl : j = S.u := by omega
          have hsz := hto.sz
          have hls := hto.ls
          have hown := hls.own
          replace hown : wr.ownsRow base 87 2 S.uv S.u ((S.tellI S.N).tellO S.u).ucells := hown
          rw [HUV.out] at hown
          have cu : wr.cell? ⟨s, 38, none⟩ = some (.slice a S.u cap) := by rw [← HUV.out]; exact hls.cu
          obtain ⟨w1, hcl, hown1, hgr, hz1⟩ := run_clear77 hown 0
          have es : w1.heap[s]? = wr.heap[s]? := hgr.block s hls.lt (fun e => hls.u_ne_s (by show S.uv.ownBlock = some s; rw [HUV.out]; exact e.symm))
          have c38 := (cell_of_block (o := 38) es).trans cu
          have f38 := (World.frozen?_of_block (a := ⟨s, 38, none⟩) es).trans (hls.row.fz 38)
          have hsl := run_slice77 a S.u cap
          have HD := hide (hto.done HH.out.foot' HUV.out hown1 hgr)
          clear hto hls hown hj hlt hown1 hgr hz1 es
          go_wp2
          obtain ⟨h1, h2, h3, h4⟩ := HD.out
          exact hR _ _ _ (by rw [HUV.out]; cases a <;> rfl) h2 h1 h3 h4

end Go.Proofs.Qxb6605402a
