import Derived.Test.Qxb6605402aPt
namespace Go.Proofs.Qxb6605402a
open Go.RowKit Go.Maps
set_option linter.unusedVariables false
set_option linter.unusedSimpArgs false

set_option maxRecDepth 100000 in
set_option maxHeartbeats 1000000 in
/-- setLocal -/
theorem setLocal42 (w : World) (base s : Nat) (S : LD) (b o : Nat) (l tt : Bool) (x : Value) (c3 : w.cell? ⟨b, o + 3, none⟩ = some x) (f3 : w.frozen? ⟨b, o + 3, none⟩ = false) (c4 : w.cell? ⟨b, o + 4, none⟩ = some (.bool tt)) (h : LS (w.setCell ⟨b, o + 3, none⟩ (.bool l)) base s S) (hu8 : S.u < 8192) (hb0 : base ≤ w.heap.size) (r : ByteArray) (hr : r.size ≤ maxLen) (R : Ending → World → Prop)
    (h1 : (l && !tt) = false → R (.returned (.tuple #[])) (w.setCell ⟨b, o + 3, none⟩ (.bool l)))
    (h2 : (l && !tt) = true → NoO S r → R (.returned (.tuple #[])) (w.setCell ⟨b, o + 3, none⟩ (.bool l)))
    (h3 : ∀ i, (l && !tt) = true → i < S.m → (S.O i).res = r → S.F i = true → R (.returned (.tuple #[])) (w.setCell ⟨b, o + 3, none⟩ (.bool l)))
    (h4 : ∀ i w' uv, (l && !tt) = true → i < S.m → (S.O i).res = r → S.F i = false → LS w' base s ((S.setO i (S.O i).hd true).setU (S.u + 1) (fun j => if j = S.u then i else S.T j) uv) → Below base (w.setCell ⟨b, o + 3, none⟩ (.bool l)) w' → R (.returned (.tuple #[])) w') :
    Calls Try.prog 42 #[.pointer (some ⟨s, 0, none⟩), .string r, .pointer (some ⟨b, o, none⟩), .bool l] w R := by
  have k3 : (w.setCell ⟨b, o + 3, none⟩ (.bool l)).cell? ⟨b, o + 3, none⟩ = some (.bool l) := World.cell?_setCell_same _ _ _ c3
  have k4 : (w.setCell ⟨b, o + 3, none⟩ (.bool l)).cell? ⟨b, o + 4, none⟩ = some (.bool tt) := (setCell_cell_other (.inr (by omega))).trans c4
  have HH := hide h
  have hz : base ≤ (w.setCell ⟨b, o + 3, none⟩ (.bool l)).heap.size := by simp; exact hb0
  clear h
  go_enter Try.func42, Try.ntmps42
  go_wp2_with (go_at_call 43; refine note43 _ base s S HH.out hu8 hz r hr b o l tt k3 k4 _ (fun q => ?_) (fun q1 q2 => ?_) (fun i q1 q2 q3 q4 => ?_) (fun i w' uv q1 q2 q3 q4 q5 q6 => ?_))
  · go_end0; exact h1 q
  · go_end0; exact h2 q1 q2
  · go_end0; exact h3 i q1 q2 q3 q4
  · go_end0; exact h4 i w' uv q1 q2 q3 q4 q5 q6

theorem add_first {w : World} {base s : Nat} {S : LD} (h : LS w base s S) (hN : S.N < 4) (hb0 : base ≤ w.heap.size) (r : ByteArray) (hd : Hold) (OB : Obj) :
    LS ((w.setCells s (S.N * 9) [.string r, .string hd.mode, .int .u64 hd.ver, .bool hd.cdr, .bool hd.loc, .bool hd.tol, .bool hd.wri, .int .u64 hd.tok, .int .u64 hd.sqn]).alloc OB).drew base s (S.setS S.N (updI S.I S.N ⟨r, hd⟩)) ∧ Below base w ((w.setCells s (S.N * 9) [.string r, .string hd.mode, .int .u64 hd.ver, .bool hd.cdr, .bool hd.loc, .bool hd.tol, .bool hd.wri, .int .u64 hd.tok, .int .u64 hd.sqn]).alloc OB).drew ∧
      (∀ x, x < w.heap.size → x ≠ s → ((w.setCells s (S.N * 9) [.string r, .string hd.mode, .int .u64 hd.ver, .bool hd.cdr, .bool hd.loc, .bool hd.tol, .bool hd.wri, .int .u64 hd.tok, .int .u64 hd.sqn]).alloc OB).drew.heap[x]? = w.heap[x]?) := by
  generalize hvs : [Value.string r, .string hd.mode, .int .u64 hd.ver, .bool hd.cdr, .bool hd.loc, .bool hd.tol, .bool hd.wri, .int .u64 hd.tok, .int .u64 hd.sqn] = vs
  have hv : vs = (Lk.mk r hd).cells := by rw [← hvs]; rfl
  have hl : vs.length = 9 := by rw [hv]; rfl
  have hsz := setCells_size s vs (S.N * 9) w
  have h1 : LS (w.setCells s (S.N * 9) vs) base s (S.setS S.N (updI S.I S.N ⟨r, hd⟩)) := by
    refine h.setLkI hN h.hN _ (fun b hb => setCells_other s _ _ _ b hb) (h.row.setCells _ _ _) ?_ (fun o ho h6 => setCells_out (.inr (by rw [hl]; omega))) ((setCells_out (.inr (.inr (by rw [hl]; omega)))).trans h.cn)
    rw [hv]
    exact LkAt.set _ h.row (by omega)
  refine ⟨(h1.alloc OB).below ((Below.refl _ _).drew), ?_, fun x hx hne => ?_⟩
  · exact ((Below.setCells' s h.hbase vs (S.N * 9) w (Below.refl _ _)).alloc (by rw [hsz]; exact hb0) _).drew
  · exact (Below.heap_alloc (w.setCells s (S.N * 9) vs) OB x (by rw [hsz]; exact hx)).trans (setCells_other s vs (S.N * 9) w x hne)

set_option maxRecDepth 100000 in
set_option maxHeartbeats 2000000 in
/-- add, in place -/
theorem add39i (w : World) (base s : Nat) (S : LD) (h : LS w base s S) (hN : S.N < 4) (hb0 : base ≤ w.heap.size) (r : ByteArray) (hd : Hold) (R : Ending → World → Prop)
    (hR : ∀ w', LS w' base s (S.setS (S.N + 1) (updI S.I S.N ⟨r, hd⟩)) → Below base w w' → (∀ x, x < w.heap.size → x ≠ s → w'.heap[x]? = w.heap[x]?) → R (.returned (.pointer (some ⟨s, S.N * 9 + 1, none⟩))) w') :
    Calls Try.prog 39 #[.pointer (some ⟨s, 0, none⟩), .string r, .agg #[.string hd.mode, .int .u64 hd.ver, .bool hd.cdr, .bool hd.loc, .bool hd.tol, .bool hd.wri, .int .u64 hd.tok, .int .u64 hd.sqn]] w R := by
  have cn := h.cn
  have slt := h.lt
  have fz := h.row.fz
  obtain ⟨x0, d0⟩ := h.row.ex (o := S.N * 9) (by omega)
  obtain ⟨x1, d1⟩ := h.row.ex (o := S.N * 9 + 1) (by omega)
  obtain ⟨x2, d2⟩ := h.row.ex (o := S.N * 9 + 2) (by omega)
  obtain ⟨x3, d3⟩ := h.row.ex (o := S.N * 9 + 3) (by omega)
  obtain ⟨x4, d4⟩ := h.row.ex (o := S.N * 9 + 4) (by omega)
  obtain ⟨x5, d5⟩ := h.row.ex (o := S.N * 9 + 5) (by omega)
  obtain ⟨x6, d6⟩ := h.row.ex (o := S.N * 9 + 6) (by omega)
  obtain ⟨x7, d7⟩ := h.row.ex (o := S.N * 9 + 7) (by omega)
  obtain ⟨x8, d8⟩ := h.row.ex (o := S.N * 9 + 8) (by omega)
  have hN' : (S.N : Int) < 4 := by omega
  have HH := hide h
  clear h
  go_enter Try.func39, Try.ntmps39
  go_wp2
  go_cut [6] (fun _ wc => LS wc base s (S.setS S.N (updI S.I S.N ⟨r, hd⟩)) ∧ Below base w wc ∧ (∀ x, x < w.heap.size → x ≠ s → wc.heap[x]? = w.heap[x]?))
  case first =>
    go_region
    go_wp2
    go_meet
    case rel =>
      exact add_first HH.out hN hb0 r hd _
  case rest =>
    clear cn slt fz d0 d1 d2 d3 d4 d5 d6 d7 d8
    obtain ⟨hls, hb, hfr⟩ := hcut
    have cn : wc.cell? ⟨s, 36, none⟩ = some (.int .i64 (S.N : Int)) := hls.cn
    have fz := hls.row.fz
    have k36 : (wc.setCell ⟨s, 36, none⟩ (.int .i64 ((S.N : Int) + 1))).cell? ⟨s, 36, none⟩ = some (.int .i64 ((S.N : Int) + 1)) := World.cell?_setCell_same _ _ _ cn
    have HL := hide (And.intro hls (And.intro hb hfr))
    clear hls hb hfr
    go_wp2
    go_quiet (fail)
    go_wp2
    obtain ⟨hls, hb, hfr⟩ := HL.out
    have o : ∀ x, x ≠ 36 → (wc.setCell ⟨s, 36, none⟩ (.int .i64 ((S.N : Int) + 1))).cell? ⟨s, x, none⟩ = wc.cell? ⟨s, x, none⟩ := fun x hx => setCell_cell_other (.inr hx)
    have h1 : LS (wc.setCell ⟨s, 36, none⟩ (.int .i64 ((S.N : Int) + 1))) base s ((S.setS S.N (updI S.I S.N ⟨r, hd⟩)).setS (S.N + 1) (updI S.I S.N ⟨r, hd⟩)) :=
      hls.setS (fun b hb => setCell_other (b := s) _ _ hb) (hls.row.setCell _ _) (by omega) (fun i hi => LkAt.of_range fun j hj => (o _ (by omega)).trans ((hls.ip i hi).range j hj)) (by rw [k36]; go_num) ((o _ (by omega)).trans hls.cm) ((o _ (by omega)).trans hls.cu)
    exact hR _ (h1.below (Below_drewN (Below.refl _ _) _)) (Below_drewN (hb.setCell (p := ⟨s, 36, none⟩) hls.hbase _) _) (fun x hx hne => (setCell_other (b := s) _ _ hne).trans (hfr x hx hne))

theorem LS.newMap2 {w : World} {base s : Nat} {S : LD} (h : LS w base s S) (h0 : S.m = 0) (hb : base ≤ w.heap.size) (OB : Obj) : LS (((w.setCell ⟨s, 37, none⟩ (.map (some (w.heap.size + 1)))).alloc OB).alloc (.map #[] 0)) base s { S with mv := some (w.heap.size + 1) } := by
  have h1 := (h.alloc OB).newMap h0 (by simp; omega)
  rw [World.size_alloc, World.setCell_alloc_past _ _ _ _ h.lt] at h1
  exact h1
theorem LD.mv_eta {S : LD} {mb : Nat} (h : S.mv = some mb) : { S with mv := some mb } = S := by
  rw [← h]

set_option maxRecDepth 100000 in
set_option maxHeartbeats 2000000 in
/-- add, among the others -/
theorem add39o (w : World) (base s : Nat) (S : LD) (h : LS w base s S) (hN : S.N = 4) (hb0 : base ≤ w.heap.size) (r : ByteArray) (hr : r.size ≤ maxLen) (hno : NoO S r) (hm8 : S.m < 8192) (hd : Hold) (R : Ending → World → Prop)
    (hR : ∀ w' b mb, LS w' base s (S.addO ⟨r, hd⟩ b mb) → Below base w w' → (∀ x, x < w.heap.size → x ≠ s → S.mv ≠ some x → w'.heap[x]? = w.heap[x]?) → w.heap.size ≤ b → R (.returned (.pointer (some ⟨b, 0, none⟩))) w') :
    Calls Try.prog 39 #[.pointer (some ⟨s, 0, none⟩), .string r, .agg #[.string hd.mode, .int .u64 hd.ver, .bool hd.cdr, .bool hd.loc, .bool hd.tol, .bool hd.wri, .int .u64 hd.tok, .int .u64 hd.sqn]] w R := by
  have cn := h.cn
  rw [hN] at cn
  have cm := h.cm
  have slt := h.lt
  have fz := h.row.fz
  have hnil := fun (w : World) (r : Option Nat) => run_eql_map_nil (P := Try.prog) w 76 9 80 r Try.underlying76
  have hmm := @run_makeMap Try.prog
  have HH := hide h
  have HN := hide hno
  have H4 := hide hN
  clear h hno hN
  go_enter Try.func39, Try.ntmps39
  go_upto_if 45 with (fail)
  go_cut [6] (fun _ wc => ∃ mb, LS wc base s { S with mv := some mb } ∧ (S.mv = none ∨ S.mv = some mb) ∧ Below base w wc ∧ wc.heap[w.heap.size]? = some (.cells #[.string hd.mode, .int .u64 hd.ver, .bool hd.cdr, .bool hd.loc, .bool hd.tol, .bool hd.wri, .int .u64 hd.tok, .int .u64 hd.sqn] 72) ∧ (∀ x, x < w.heap.size → x ≠ s → wc.heap[x]? = w.heap[x]?) ∧ (S.mv = none → w.heap.size ≤ mb))
  case first =>
    cases hmv : S.mv with
    | none =>
      rw [hmv] at cm
      have HM := hide hmv
      clear hmv
      go_wp2
      go_meet
      case rel =>
        have hm0 : S.m = 0 := by
          rcases HH.out.mp with ⟨_, h0⟩ | ⟨_, e, _⟩
          · exact h0
          · rw [HM.out] at e; cases e
        refine ⟨w.heap.size + 1, HH.out.newMap2 hm0 hb0 _, .inl HM.out, ?_, ?_, fun x hx hne => ?_, fun _ => Nat.le_succ _⟩
        · exact (((Below.refl base w).setCell (p := ⟨s, 37, none⟩) HH.out.hbase _).alloc (by simp; exact hb0) _).alloc (by simp; omega) _
        · rw [Below.heap_alloc _ _ _ (by simp)]
          exact heap_newE _ _ _ (by simp)
        · rw [Below.heap_alloc _ _ _ (by simp; omega), Below.heap_alloc _ _ _ (by simp; omega)]
          exact setCell_other (b := s) _ _ hne
    | some mb =>
      rw [hmv] at cm
      have HM := hide hmv
      clear hmv
      go_wp2
      go_meet
      case rel =>
        refine ⟨mb, ?_, .inr HM.out, (Below.refl _ _).alloc hb0 _, heap_new _ _, fun x hx hne => Below.heap_alloc _ _ _ hx, fun e => by rw [HM.out] at e; cases e⟩
        rw [LD.mv_eta HM.out]
        exact HH.out.alloc _
  case rest =>
    clear cn cm slt fz
    obtain ⟨mb, hls, hor, hb, hbox, hfr, hge⟩ := hcut
    have cm : wc.cell? ⟨s, 37, none⟩ = some (.map (some mb)) := hls.cm
    have slt := hls.lt
    have hsz := hb.size
    have wlt : w.heap.size < wc.heap.size := (Array.getElem?_eq_some_iff.1 hbox).1
    have c0 := cell_of_heap hbox 0
    have c1 := cell_of_heap hbox 1
    have c2 := cell_of_heap hbox 2
    have c3 := cell_of_heap hbox 3
    have c4 := cell_of_heap hbox 4
    have c5 := cell_of_heap hbox 5
    have c6 := cell_of_heap hbox 6
    have c7 := cell_of_heap hbox 7
    obtain ⟨w2, hrun, hls2, hbel2, hold2⟩ := hls.putMap (w1 := wc) (Below.refl _ _) rfl hm8 ⟨r, hd⟩ hr HN.out (by omega)
    have HL := hide (And.intro hls2 (And.intro hbel2 (And.intro hold2 (And.intro hb (And.intro hor (And.intro hfr hge))))))
    clear hls hls2 hbel2 hold2 hb hor hfr hge hbox
    go_wp2
    obtain ⟨hls2, hbel2, hold2, hb, hor, hfr, hge⟩ := HL.out
    refine hR w2 wc.heap.size mb hls2 (hb.trans hbel2) (fun x hx hne hnm => ?_) hsz
    refine (hold2 x (by omega) (fun e => ?_)).trans (hfr x hx hne)
    rcases hor with h0 | h0
    · have := hge h0; omega
    · exact hnm (by rw [h0, e])

end Go.Proofs.Qxb6605402a
