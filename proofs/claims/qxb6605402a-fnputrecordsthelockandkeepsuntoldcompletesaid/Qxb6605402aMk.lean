import Derived.Test.Qxb6605402aApp
import Derived.Test.Qxb6605402aAcc2
namespace Go.Proofs.Qxb6605402a
open Go.RowKit Go.Maps
set_option linter.unusedVariables false
set_option linter.unusedSimpArgs false

/-- the set's block while its locks in place are laid -/
structure Lay (w wr : World) (cs : Array Value) (I : Nat → Lk) (N k : Nat) : Prop where
  box : wr.heap[w.heap.size]? = some (.cells cs 60)
  row : Row wr (w.heap.size + 1) 79 39
  ip : ∀ i, i < k → LkAt wr (w.heap.size + 1) (i * 9) (I i)
  cn : wr.cell? ⟨w.heap.size + 1, 36, none⟩ = some (.int .i64 (N : Int))
  cm : wr.cell? ⟨w.heap.size + 1, 37, none⟩ = some (.map none)
  cu : wr.cell? ⟨w.heap.size + 1, 38, none⟩ = some (.slice none 0 0)
  bel : Below w.heap.size w wr

theorem Lay.step {w wr w1 : World} {cs : Array Value} {I : Nat → Lk} {N k : Nat} (h : Lay w wr cs I N k) (hk : k < 4) (hb : Below wr.heap.size wr.drew w1) : Lay w (w1.setCells (w.heap.size + 1) (k * 9) (I k).cells) cs I N (k + 1) := by
  have hlt := h.row.lt
  have hb' : Below wr.heap.size wr w1 := ⟨hb.os, hb.tape, hb.output, hb.size, hb.block⟩
  have hr := h.row.below hb' hlt
  have o9 : k * 9 + (I k).cells.length ≤ 36 := by rw [Lk.len]; omega
  refine ⟨?_, hr.setCells _ _ _, fun i hi => ?_, ?_, ?_, ?_, ?_⟩
  · rw [setCells_other _ _ _ _ _ (by omega)]
    exact blk hb' h.box (by omega)
  · by_cases e : i = k
    · subst e; exact LkAt.set (I i) hr (by omega)
    · exact ((h.ip i (by omega)).below hb' hlt).out (.inr (.inl (by omega)))
  · exact ((setCells_out (.inr (.inr (by omega)))).trans (hb'.cell (p := ⟨_, 36, none⟩) hlt)).trans h.cn
  · exact ((setCells_out (.inr (.inr (by omega)))).trans (hb'.cell (p := ⟨_, 37, none⟩) hlt)).trans h.cm
  · exact ((setCells_out (.inr (.inr (by omega)))).trans (hb'.cell (p := ⟨_, 38, none⟩) hlt)).trans h.cu
  · exact Below.setCells' _ (by omega) _ _ _ (h.bel.trans (hb'.mono (by omega)))

/-- the set behind k of the others -/
def mkS (N : Nat) (I : Nat → Lk) (k : Nat) (L : Nat → Lk) (T : Nat → Nat) (B : Nat → Nat) (mv : Option Nat) : LD := { N := N, I := I, m := k, O := L, F := fun _ => false, B := B, u := 0, T := T, mv := mv, uv := .slice none 0 0 }
theorem Lay.ls {w wr : World} {cs : Array Value} {I : Nat → Lk} {N : Nat} (h : Lay w wr cs I N 4) (hN : N ≤ 4) (L : Nat → Lk) (T : Nat → Nat) (B : Nat → Nat) : LS wr w.heap.size (w.heap.size + 1) (mkS N I 0 L T B none) where
  hN := hN
  hm := Nat.zero_le _
  hu := Nat.zero_le _
  hbase := Nat.le_succ _
  row := h.row
  ip := h.ip
  cn := h.cn
  cm := h.cm
  cu := h.cu
  mp := .inl ⟨rfl, rfl⟩
  orow i hi := absurd hi (Nat.not_lt_zero _)
  ohd i hi := absurd hi (Nat.not_lt_zero _)
  ofl i hi := absurd hi (Nat.not_lt_zero _)
  obase i hi := absurd hi (Nat.not_lt_zero _)
  inj i j hi := absurd hi (Nat.not_lt_zero _)
  dist i j hi := absurd hi (Nat.not_lt_zero _)
  klen i hi := absurd hi (Nat.not_lt_zero _)
  tlt j hj := absurd hj (Nat.not_lt_zero _)
  own := World.ownsRow_nil _ _ _ _

theorem LS.newMap {w : World} {base s : Nat} {S : LD} (h : LS w base s S) (h0 : S.m = 0) (hb : base ≤ w.heap.size) : LS ((w.setCell ⟨s, 37, none⟩ (.map (some w.heap.size))).alloc (.map #[] 0)) base s { S with mv := some w.heap.size } := by
  have hz : (w.setCell ⟨s, 37, none⟩ (.map (some w.heap.size))).heap.size = w.heap.size := by simp
  have hs : s < (w.setCell ⟨s, 37, none⟩ (.map (some w.heap.size))).heap.size := by rw [hz]; exact h.lt
  have e1 : ((w.setCell ⟨s, 37, none⟩ (.map (some w.heap.size))).alloc (.map #[] 0)).heap[s]? = (w.setCell ⟨s, 37, none⟩ (.map (some w.heap.size))).heap[s]? := Below.heap_alloc _ _ _ hs
  have c1 : ∀ o, o ≠ 37 → ((w.setCell ⟨s, 37, none⟩ (.map (some w.heap.size))).alloc (.map #[] 0)).cell? ⟨s, o, none⟩ = w.cell? ⟨s, o, none⟩ := fun o ho => (cell_of_block e1).trans (setCell_cell_other (.inr ho))
  exact {
    hN := h.hN, hm := h.hm, hu := h.hu, hbase := h.hbase
    row := (h.row.setCell _ _).of_block e1
    ip := fun i hi => LkAt.of_range fun j hj => (c1 _ (by omega)).trans ((h.ip i hi).range j hj)
    cn := (c1 _ (by omega)).trans h.cn
    cm := (cell_of_block e1).trans (setCell_cell_same h.row (by omega))
    cu := (c1 _ (by omega)).trans h.cu
    mp := .inr ⟨_, rfl, hb, by rw [h0]; have := MapIs.made (w.setCell ⟨s, 37, none⟩ (.map (some w.heap.size))) S.O S.B; rwa [hz] at this⟩
    orow := fun i hi => by simp only [h0] at hi; omega
    ohd := fun i hi => by simp only [h0] at hi; omega
    ofl := fun i hi => by simp only [h0] at hi; omega
    obase := fun i hi => by simp only [h0] at hi; omega
    inj := fun i j hi => by simp only [h0] at hi; omega
    dist := fun i j hi => by simp only [h0] at hi; omega
    klen := fun i hi => by simp only [h0] at hi; omega
    tlt := h.tlt
    own := ownsRow_of_block h.own (fun g e => by
      have hg := h.ltu e
      rw [Below.heap_alloc _ _ _ (by rw [hz]; exact hg)]
      exact setCell_other (b := s) _ _ (fun e' => h.u_ne_s (by rw [e, e'])))
  }

/-- the map takes a new lock, laid in a new block -/
theorem LS.putMap {w w1 : World} {base s : Nat} {S : LD} (h : LS w base s S) (hb : Below w.heap.size w w1) {mb : Nat} (e : S.mv = some mb) (hm8 : S.m < 8192) (l : Lk) (hl : l.res.size ≤ maxLen) (hnew : ∀ i, i < S.m → (S.O i).res ≠ l.res) (hbb : base ≤ w.heap.size) :
    ∃ w2, (Instr.mapUpdate 76 (.map (some mb)) (.string l.res) (.pointer (some ⟨w1.heap.size, 0, none⟩))).run Try.prog (w1.alloc (.cells #[.string l.hd.mode, .int .u64 l.hd.ver, .bool l.hd.cdr, .bool l.hd.loc, .bool l.hd.tol, .bool l.hd.wri, .int .u64 l.hd.tok, .int .u64 l.hd.sqn, .bool false] 82)) = .ok () w2 ∧ LS w2 base s (S.addO l w1.heap.size mb) ∧ Below base w1 w2 ∧ (∀ x, x < w1.heap.size → x ≠ mb → w2.heap[x]? = w1.heap[x]?) := by
  generalize hO : Obj.cells #[.string l.hd.mode, .int .u64 l.hd.ver, .bool l.hd.cdr, .bool l.hd.loc, .bool l.hd.tol, .bool l.hd.wri, .int .u64 l.hd.tok, .int .u64 l.hd.sqn, .bool false] 82 = ob
  have hlm := h.ltm e
  have hsz := hb.size
  have hmp : MapIs w mb S.m S.O S.B ∧ base ≤ mb := by
    rcases h.mp with ⟨e', _⟩ | ⟨mb', e', hb', hm⟩
    · rw [e] at e'; cases e'
    · rw [e] at e'; cases e'; exact ⟨hm, hb'⟩
  have hm1 : MapIs (w1.alloc ob) mb S.m S.O S.B := hmp.1.of_block ((Below.heap_alloc _ _ _ (by omega)).trans (hb.block mb hlm))
  obtain ⟨w2, hrun, hm2, hg⟩ := hm1.put hnew hl (show S.m < maxLen by unfold maxLen; omega) w1.heap.size (O' := (S.addO l w1.heap.size mb).O) (B' := (S.addO l w1.heap.size mb).B) (fun i hi => by rw [S.addO_O _ _ _ hi]) (fun i hi => by rw [S.addO_B _ _ _ hi]) (by rw [S.addO_O']) (by rw [S.addO_B'])
  have old1 : ∀ x, x < w1.heap.size → x ≠ mb → w2.heap[x]? = w1.heap[x]? := fun x hx hne =>
    (hg.block x (by simp; omega) (fun e => hne (by cases e; rfl))).trans (Below.heap_alloc _ _ _ hx)
  have old : ∀ x, x < w.heap.size → x ≠ mb → w2.heap[x]? = w.heap[x]? := fun x hx hne => (old1 x (by omega) hne).trans (hb.block x hx)
  have hnb : w2.heap[w1.heap.size]? = some ob := (hg.block _ (by simp) (fun e => by cases e; omega)).trans (heap_new _ _)
  subst hO
  refine ⟨w2, hrun, ?_, ?_, old1⟩
  · have es := old s h.lt (h.mv_ne_row e h.row).symm
    exact h.addO hm8 hl hnew (fun o _ => cell_of_block es) (h.row.of_block es) ((cell_of_block es).trans (by rw [h.cm, e]))
      (fun i hi => old _ (h.ltb hi) (h.mv_ne_row e (h.orow i hi)).symm)
      (fun g hg' => old g (h.ltu hg') (by obtain ⟨n, hr, _⟩ := h.ublock hg'; exact (h.mv_ne_row e hr).symm))
      (by omega) (fun i hi => by have := h.ltb hi; omega) ⟨_, hnb, rfl⟩
      (HdAt.of_range fun j hj => (cell_of_heap hnb _).trans (by
        match j, hj with
        | 0, _ => rfl
        | 1, _ => rfl
        | 2, _ => rfl
        | 3, _ => rfl
        | 4, _ => rfl
        | 5, _ => rfl
        | 6, _ => rfl
        | 7, _ => rfl))
      ((cell_of_heap hnb 8).trans rfl) hmp.2 hm2
  · exact ((Below.refl _ _).alloc (by omega) _).grown hg (by simp; omega) (fun k hk => by cases hk; exact hmp.2)
theorem mkS_addO {N : Nat} {I : Nat → Lk} {k : Nat} {L : Nat → Lk} {T : Nat → Nat} {B : Nat → Nat} {mv : Option Nat} {b mb : Nat} : (mkS N I k L T B mv).addO (L k) b mb = mkS N I (k + 1) L T (fun j => if j = k then b else B j) (some mb) := by
  have e1 : (fun j => if j = k then L k else L j) = L := by funext j; split <;> simp_all
  have e2 : (fun j : Nat => if j = k then false else false) = fun _ => false := by funext j; split <;> rfl
  show LD.mk N I (k + 1) (fun j => if j = k then L k else L j) (fun j => if j = k then false else false) (fun j => if j = k then b else B j) 0 T (some mb) (.slice none 0 0) = _
  rw [e1, e2]
  rfl
theorem LD.setO_same (S : LD) (i : Nat) (f : Bool) : (S.setO i (S.O i).hd f).O = S.O := by
  funext x
  show (if x = i then Lk.mk (S.O i).res (S.O i).hd else S.O x) = S.O x
  split
  · rename_i e; subst e; rfl
  · rfl
theorem LS.mv_ne_cell {w : World} {base s : Nat} {S : LD} (h : LS w base s S) {mb : Nat} (e : S.mv = some mb) {b o : Nat} {v : Value} (c : w.cell? ⟨b, o, none⟩ = some v) : b ≠ mb := by
  rcases h.mp with ⟨e', _⟩ | ⟨mb', e', _, hm⟩
  · rw [e] at e'; cases e'
  · rw [e] at e'; cases e'
    obtain ⟨es, clock, hb⟩ := hm.isMap
    intro e'; subst e'
    simp [World.cell?, hb] at c

set_option maxRecDepth 100000 in
set_option maxHeartbeats 2000000 in
/-- ZZMakeLockSet -/
theorem mk35 (w : World) (cs : Array Value) (I : Nat → Lk) (hI : IpAt cs I) (N : Nat) (hN : N ≤ 4) (a : Option Addr) (L : Nat → Lk) (m cap : Nat) (hm : m ≤ 4096) (hL : OtAt w a m L) (a2 : Option Addr) (u cap2 : Nat) (hu : u ≤ 4096) (T : Nat → Nat) (hU : UtAt w a2 u (fun i => (T i : Int)))
    (hT : ∀ k, k < u → T k < m) (hTi : ∀ i j, i < j → j < u → T i ≠ T j) (hd : ∀ i j, i < j → j < m → (L i).res ≠ (L j).res) (hl : ∀ i, i < m → (L i).res.size ≤ maxLen)
    (R : Ending → World → Prop) (hR : ∀ s S w', LS w' w.heap.size s S → S.N = N → S.I = I → S.m = m → S.O = L → S.u = u → S.T = T → (∀ i, i < m → (S.F i = true ↔ ∃ j, j < u ∧ T j = i)) → Below w.heap.size w w' → R (.returned (.pointer (some ⟨s, 0, none⟩))) w') :
    Calls Try.prog 35 #[.agg cs, .int .i64 (N : Int), .slice a m cap, .slice a2 u cap2] w R := by
  go_enter Try.func35, Try.ntmps35
  go_wp2
  go_loopg [10] 4 (fun g i wr => ∃ k : Nat, k + g = 4 ∧ i = .int .i64 k ∧ Lay w wr cs I N k)
  case atStart =>
    exact ⟨0, rfl, rfl, heap_old _ (heap_new _ _), ⟨_, heap_new2 _ _ _, rfl⟩, fun i h => by omega, (cell_of_heap (heap_new2 _ _ _) 36).trans rfl, (cell_of_heap (heap_new2 _ _ _) 37).trans rfl, (cell_of_heap (heap_new2 _ _ _) 38).trans rfl, ((Below.refl _ _).alloc (Nat.le_refl _) _).alloc (by simp) _⟩
  case round =>
    obtain ⟨k, hk, rfl, hlay⟩ := hrel
    by_cases hlt : k < 4
    · have hc := hI.at hlay.box hlt
      obtain ⟨c0, c1, c2, c3, c4, c5, c6, c7, c8⟩ := hc
      have fz := hlay.row.fz
      obtain ⟨x0, d0⟩ := hlay.row.ex (o := k * 9) (by omega)
      obtain ⟨x1, d1⟩ := hlay.row.ex (o := k * 9 + 1) (by omega)
      obtain ⟨x2, d2⟩ := hlay.row.ex (o := k * 9 + 2) (by omega)
      obtain ⟨x3, d3⟩ := hlay.row.ex (o := k * 9 + 3) (by omega)
      obtain ⟨x4, d4⟩ := hlay.row.ex (o := k * 9 + 4) (by omega)
      obtain ⟨x5, d5⟩ := hlay.row.ex (o := k * 9 + 5) (by omega)
      obtain ⟨x6, d6⟩ := hlay.row.ex (o := k * 9 + 6) (by omega)
      obtain ⟨x7, d7⟩ := hlay.row.ex (o := k * 9 + 7) (by omega)
      obtain ⟨x8, d8⟩ := hlay.row.ex (o := k * 9 + 8) (by omega)
      have s0 : w.heap.size < wr.heap.size := by have := hlay.row.lt; omega
      have s1 : w.heap.size + 1 < wr.heap.size := hlay.row.lt
      have hk' : (k : Int) < 4 := by omega
      have HL := hide hlay
      have HI := hide hI
      have HO := hide hL
      have HU := hide hU
      clear hlay hI hL hU
      go_wp2
      go_region_with (go_at_call 40; refine zzin40 (I k).hd _ _ (fun w1 hb1 => ?_); obtain ⟨hc, hf, _⟩ := bcellH wr hb1 rfl; have HB := hide hb1; clear hb1)
      all_goals
        go_wp2
        go_roundg (gk - 1)
        case rel => exact ⟨k + 1, by omega, by go_num, (unhide HL).step hlt (unhide HB)⟩
        case measure => omega
    · obtain rfl : k = 4 := by omega
      have hls := hlay.ls hN L T (fun _ => 0)
      have HL := hide (show LS wr w.heap.size (w.heap.size + 1) (mkS N I 0 L T (fun _ => 0) none) ∧ Below w.heap.size w wr from ⟨hls, hlay.bel⟩)
      clear hlay hls hk hlt hI
      go_wp2
      go_loopg [11] m (fun g i wr => ∃ (k : Nat) (B : Nat → Nat) (mv : Option Nat), k + g = m ∧ i = .int .i64 k ∧ LS wr w.heap.size (w.heap.size + 1) (mkS N I k L T B mv) ∧ Below w.heap.size w wr)
      case atStart => exact ⟨0, _, _, by omega, rfl, HL.out⟩
      case round =>
        clear HL
        obtain ⟨k, B, mv, hk, rfl, hls, hb⟩ := hrel
        by_cases hlt : k < m
        · have hnil := fun (w : World) (r : Option Nat) => run_eql_map_nil (P := Try.prog) w 76 9 80 r Try.underlying76
          have hmm := @run_makeMap Try.prog
          have c7 : wr.cell? ⟨w.heap.size + 1, 37, none⟩ = some (.map mv) := hls.cm
          have fz := hls.row.fz
          have s1 := hls.row.lt
          have HL := hide (show LS wr w.heap.size (w.heap.size + 1) (mkS N I k L T B mv) ∧ Below w.heap.size w wr from ⟨hls, hb⟩)
          have HO := hide hL
          have HU := hide hU
          clear hls hb hL hU
          go_upto_if 47 with (fail)
          go_cut [11] (fun i wc => i = .int .i64 k ∧ ∃ mb, LS wc w.heap.size (w.heap.size + 1) (mkS N I k L T B (some mb)) ∧ Below w.heap.size w wc)
          case first =>
            rcases mv with _ | mb
            · have hk0 : Hid (k = 0) := by
                rcases HL.out.1.mp with ⟨_, h0⟩ | ⟨_, e, _⟩
                · exact h0
                · cases e
              go_wp2
              go_meet
              case rel => exact ⟨rfl, _, (HL.out.1.newMap hk0.out (Nat.le_of_lt (by omega))), ((HL.out.2).setCell (p := ⟨w.heap.size + 1, 37, none⟩) (by simp) _).alloc (by simp; omega) _⟩
            · go_wp2
              go_meet
              case rel => exact ⟨rfl, mb, HL.out⟩
          case rest =>
            clear HL c7 fz s1
            obtain ⟨rfl, mb, hls, hb⟩ := hcut
            have c7 : wc.cell? ⟨w.heap.size + 1, 37, none⟩ = some (.map (some mb)) := hls.cm
            obtain ⟨b, o, rfl, hbs, hc⟩ := (HO.out.below hb) k hlt
            obtain ⟨c0, c1, c2, c3, c4, c5, c6, c7', c8⟩ := hc
            have hlr := hl k hlt
            have hsz := hb.size
            have s1 := hls.row.lt
            have n1 : w.heap.size + 1 ≠ mb := hls.mv_ne_cell rfl c7
            have n2 : b ≠ mb := hls.mv_ne_cell rfl c0
            have HD := hide (show ∀ i, i < k → (L i).res ≠ (L k).res from fun i hi => hd i k hi hlt)
            have HL := hide (show LS wc w.heap.size (w.heap.size + 1) (mkS N I k L T B (some mb)) ∧ Below w.heap.size w wc from ⟨hls, hb⟩)
            clear hls hb
            go_wp2
            go_region_held3 (fun w' => w'.cell? ⟨w.heap.size + 1, 37, none⟩ = some (.map (some mb)) ∧ w'.cell? ⟨b, o + k * 9, none⟩ = some (.string (L k).res) ∧ w'.cell? ⟨b, o + k * 9 + 1, none⟩ = some (.string (L k).hd.mode) ∧ w'.cell? ⟨b, o + k * 9 + 2, none⟩ = some (.int .u64 (L k).hd.ver) ∧ w'.cell? ⟨b, o + k * 9 + 3, none⟩ = some (.bool (L k).hd.cdr) ∧ w'.cell? ⟨b, o + k * 9 + 4, none⟩ = some (.bool (L k).hd.loc) ∧ w'.cell? ⟨b, o + k * 9 + 5, none⟩ = some (.bool (L k).hd.tol) ∧ w'.cell? ⟨b, o + k * 9 + 6, none⟩ = some (.bool (L k).hd.wri) ∧ w'.cell? ⟨b, o + k * 9 + 7, none⟩ = some (.int .u64 (L k).hd.tok) ∧ w'.cell? ⟨b, o + k * 9 + 8, none⟩ = some (.int .u64 (L k).hd.sqn)) (go_keep)
              ((go_at_call 40; refine zzin40 (L k).hd _ _ (fun w1 hb1 => ?_); obtain ⟨hc, hf, hb2⟩ := bcellH wc hb1 rfl; obtain ⟨w2, hrun, hls2, hbel2, hold2⟩ := HL.out.1.putMap (w1 := w1) ⟨hb2.os, hb2.tape, hb2.output, hb2.size, hb2.block⟩ rfl (show k < 8192 by omega) (L k) hlr HD.out hsz; have HB := hide (And.intro hb2 (And.intro hls2 hbel2)); have z1 : b < w1.heap.size := Nat.lt_of_lt_of_le hbs hb2.size; have z2 : w.heap.size + 1 < w1.heap.size := Nat.lt_of_lt_of_le s1 hb2.size; have hc2 := fun (x o : Nat) (hx : x < w1.heap.size) (hne : x ≠ mb) => cell_of_block (o := o) (hold2 x hx hne); clear hb1 hb2 hls2 hbel2 hold2))
            go_wp2
            obtain ⟨hb2, hls2, hbel2⟩ := HB.out
            go_roundg (m - (k + 1))
            case rel =>
              rw [mkS_addO] at hls2
              exact ⟨k + 1, _, _, by omega, by go_num, hls2, (HL.out.2.trans (Below.mono ⟨hb2.os, hb2.tape, hb2.output, hb2.size, hb2.block⟩ hsz)).trans hbel2⟩
            case measure => omega
        · obtain rfl : k = m := by omega
          have HL := hide (show LS wr w.heap.size (w.heap.size + 1) (mkS N I k L T B mv) ∧ Below w.heap.size w wr from ⟨hls, hb⟩)
          clear hls hb hk hlt
          go_wp2
          go_loopg [12, 13, 14] u (fun g i _ _ wr => ∃ (j : Nat) (S : LD), j + g = u ∧ i = .int .i64 j ∧ LS wr w.heap.size (w.heap.size + 1) S ∧ Below w.heap.size w wr ∧ S.N = N ∧ S.I = I ∧ S.m = k ∧ S.O = L ∧ S.u = j ∧ S.T = T ∧ (∀ i, i < k → (S.F i = true ↔ ∃ x, x < j ∧ T x = i)))
          case atStart => exact ⟨0, mkS N I k L T B mv, by omega, rfl, HL.out.1, HL.out.2, rfl, rfl, rfl, rfl, rfl, rfl, fun i _ => ⟨fun h => (by cases h), fun ⟨x, hx, _⟩ => (by omega)⟩⟩
          case round =>
            clear HL
            obtain ⟨j, S, hj, rfl, hls, hb, eN, eI, em, eO, eu, eT, hF⟩ := hrel
            have HE := hide (show S.N = N ∧ S.I = I ∧ S.m = k ∧ S.O = L ∧ S.u = j ∧ S.T = T ∧ (∀ i, i < k → (S.F i = true ↔ ∃ x, x < j ∧ T x = i)) from ⟨eN, eI, em, eO, eu, eT, hF⟩)
            by_cases hlt : j < u
            · have htl := hT j hlt
              have htm : T j < S.m := by rw [em]; exact htl
              obtain ⟨b, o, rfl, hbs, hc⟩ := (hL.below hb) (T j) htl
              obtain ⟨b3, o3, rfl, hbs3, hc3⟩ := (hU.below hb) j hlt
              have c0 := hc.c0
              have c3 : wr.cell? ⟨b3, o3 + j, none⟩ = some (.int .i64 (T j : Int)) := hc3
              have hit := hls.hit htm
              rw [eO] at hit
              have cm := hls.cm
              have cu := hls.cu
              have cf := hls.ofl (T j) htm
              have fz := (hls.orow (T j) htm).fz
              have fs := hls.row.fz
              have ns := hls.b_ne_s htm
              have ltb := hls.ltb htm
              have s1 := hls.row.lt
              generalize hbt : S.B (T j) = bt at *
              have HBT := hide hbt
              have HL := hide (show LS wr w.heap.size (w.heap.size + 1) S ∧ Below w.heap.size w wr from ⟨hls, hb⟩)
              clear hls hb hc hc3 eN eI em eO eu eT hF hL hU hbt
              have hls1 : LS (wr.setCell ⟨bt, 8, none⟩ (.bool true)) w.heap.size (w.heap.size + 1) (S.setO (T j) (S.O (T j)).hd true) := by
                have hr := HL.out.1.orow (T j) htm
                have hh := HL.out.1.ohd (T j) htm
                rw [HBT.out] at hr hh
                refine HL.out.1.setO htm (fun x hx => ?_) ?_ ?_ ?_
                · rw [HBT.out] at hx; exact setCell_other (b := bt) _ _ hx
                · rw [HBT.out]; exact hr.setCell _ _
                · rw [HBT.out]; exact HdAt.of_range fun i hi => (setCell_cell_other (.inr (by omega))).trans (hh.range i hi)
                · rw [HBT.out]; exact setCell_cell_same hr (by omega)
              have HL1 := hide hls1
              clear hls1
              go_wp2_with (at_builtin; refine wpList_app2 Try.underlying77 Try.info87 (by omega) rfl _ _ rfl w.heap.size _ _ _ rfl (HL1.out.alloc _).own wr.heap.size _ _ rfl rfl rfl (heap_newE _ _ _ (by simp)) (Nat.le_trans HL1.out.hu (by omega)) (by simp; omega) (fun g cap' w1 hown2 hgrow2 hat2 hlt2 => ?_); have es := hgrow2.block (w.heap.size + 1) (by simp; omega) (fun e => HL1.out.u_ne_s e.symm); have c38 := (cell_of_block (o := 38) es).trans (HL1.out.alloc _).cu; have f38 := (World.frozen?_of_block (a := ⟨w.heap.size + 1, 38, none⟩) es).trans ((HL1.out.alloc _).row.fz 38); have HA := hide (And.intro hown2 (And.intro hgrow2 hat2)); clear hown2 hgrow2 hat2 es)
              go_roundg (u - (j + 1))
              case rel =>
                obtain ⟨hown2, hgrow2, hat2⟩ := HA.out
                obtain ⟨eN, eI, em, eO, eu, eT, hF⟩ := HE.out
                have e1 : ((S.setO (T j) (S.O (T j)).hd true).O (T j)).res = (L (T j)).res := by rw [S.setO_res, eO]
                have e2 : (S.setO (T j) (S.O (T j)).hd true).B (T j) = bt := HBT.out
                rw [← e1, ← e2] at hown2
                have hp := (HL1.out.alloc _).pushU (T' := T) htm hown2 hgrow2 hat2 (by show S.u < 8192; omega) (fun x _ => by show T x = S.T x; rw [eT]) (by show T S.u = T j; rw [eu])
                refine ⟨j + 1, _, by omega, by go_num, hp, ?_, eN, eI, em, (S.setO_same (T j) true).trans eO, by show S.u + 1 = j + 1; omega, rfl, fun x hx => ?_⟩
                · have q0 : w.heap.size ≤ wr.heap.size := HL.out.2.size
                  have q1 := HL.out.2.setCell (p := ⟨bt, 8, none⟩) (show w.heap.size ≤ bt from HBT.out ▸ HL.out.1.obase (T j) htm) (.bool true)
                  have q2 := q1.alloc (by simp; omega) (.cells #[.string (L (T j)).res, .pointer (some ⟨bt, 0, none⟩)] 87)
                  exact (q2.grown hgrow2 (by simp; omega) (fun y hy => by obtain ⟨_, _, h3⟩ := HL.out.1.ublock hy; exact h3)).setCell (p := ⟨w.heap.size + 1, 38, none⟩) (by simp) _
                · show (if x = T j then true else S.F x) = true ↔ _
                  have := hF x hx
                  constructor
                  · intro h
                    by_cases e : x = T j
                    · exact ⟨j, by omega, e.symm⟩
                    · rw [if_neg e] at h
                      obtain ⟨y, hy, e'⟩ := this.1 h
                      exact ⟨y, by omega, e'⟩
                  · rintro ⟨y, hy, e'⟩
                    by_cases e : x = T j
                    · rw [if_pos e]
                    · rw [if_neg e]
                      exact this.2 ⟨y, by have : y ≠ j := fun h => e (by rw [← e', h]); omega, e'⟩
              case measure => omega
            · obtain rfl : j = u := by omega
              have HL := hide (show LS wr w.heap.size (w.heap.size + 1) S ∧ Below w.heap.size w wr from ⟨hls, hb⟩)
              clear hls hb hlt hj eN eI em eO eu eT hF
              go_wp2
              obtain ⟨eN, eI, em, eO, eu, eT, hF⟩ := HE.out
              exact hR _ S _ HL.out.1 eN eI em eO eu eT hF HL.out.2

end Go.Proofs.Qxb6605402a
