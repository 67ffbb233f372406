import Derived.Test.Qxb6605402aPl
import Derived.Test.Qxb6605402aZTell
import Derived.Test.Qxb6605402aMake
import Derived.Test.Qxb6605402aWf
import Derived.Test.Qxb6605402aBytes
import Derived.Test.Qxb6605402aAcc3
import Derived.Test.Qxb6605402aEq
namespace Go.Proofs.Qxb6605402a
open Go.RowKit Go.Maps
set_option linter.unusedVariables false
set_option linter.unusedSimpArgs false

theorem Try.size27 : (Try.prog.info? 27).map (·.size) = some 36 := by kernel_rfl

/-- zzCount over the report -/
theorem countG {w : World} {base : Nat} {v : Value} {G : List (ByteArray × ByteArray)} (h : w.ownsRow base 70 2 v G.length (pairCells G)) (hg : G.length ≤ 16384) (r m : ByteArray) (R : Ending → World → Prop) (hR : R (.returned (.int .i64 (cq r m G : Nat))) w) :
    Calls Try.prog 14 #[v, .string r, .string m] w R := by
  obtain ⟨a, cap, rfl⟩ := ownsRow_slice h
  refine count14 a G.length cap (fun i => G[i]?.getD (r, m)) r m w hg (fun i hi => ?_) R ?_
  · obtain ⟨g, cap', e, _⟩ := h.form (by omega)
    injection e with e _ _
    subst e
    refine ⟨g, 0, rfl, ?_⟩
    obtain ⟨q0, q1⟩ := flatMap_pair (fun p : ByteArray × ByteArray => Value.string p.1) (fun p => Value.string p.2) G i G[i] (List.getElem?_eq_getElem hi)
    have h' := h
    obtain ⟨g2, cap2, e2, _⟩ := h'.form (by omega)
    injection e2 with e2 _ e3
    subst e3
    have k1 := (h.cellAt (i * 2) (by omega)).trans q0
    have k2 := (h.cellAt (i * 2 + 1) (by omega)).trans q1
    simp only [Nat.zero_add, List.getElem?_eq_getElem hi, Option.getD_some]
    exact ⟨k1, k2⟩
  · have e := filter_range G (r, m) (isAt r m)
    have e' : ((List.range G.length).filter fun i => (G[i]?.getD (r, m)).1.toList == r.toList && (G[i]?.getD (r, m)).2.toList == m.toList).length = cq r m G := e
    rw [e']
    exact hR

theorem UtAt.congr {w : World} {a : Option Addr} {n : Nat} {U U' : Nat → Int} (h : UtAt w a n U) (e : ∀ i, i < n → U' i = U i) : UtAt w a n U' := fun i hi => by
  rw [e i hi]; exact h i hi
theorem alloc_lt {w : World} {o : Obj} {n : Nat} (h : (w.alloc o).drew.heap.size ≤ n) : w.heap.size < n := by simp at h; omega
theorem lk_new (w : World) (l : Lk) (t : TypeId) : LkAt (w.alloc (.cells #[.string l.res, .string l.hd.mode, .int .u64 l.hd.ver, .bool l.hd.cdr, .bool l.hd.loc, .bool l.hd.tol, .bool l.hd.wri, .int .u64 l.hd.tok, .int .u64 l.hd.sqn] t)) w.heap.size 0 l := by
  have h := heap_new w (.cells #[.string l.res, .string l.hd.mode, .int .u64 l.hd.ver, .bool l.hd.cdr, .bool l.hd.loc, .bool l.hd.tol, .bool l.hd.wri, .int .u64 l.hd.tok, .int .u64 l.hd.sqn] t)
  exact ⟨cell_of_heap h 0, cell_of_heap h 1, cell_of_heap h 2, cell_of_heap h 3, cell_of_heap h 4, cell_of_heap h 5, cell_of_heap h 6, cell_of_heap h 7, cell_of_heap h 8⟩
theorem hd_new (w : World) (l : Hold) (t : TypeId) : HdAt (w.alloc (.cells #[.string l.mode, .int .u64 l.ver, .bool l.cdr, .bool l.loc, .bool l.tol, .bool l.wri, .int .u64 l.tok, .int .u64 l.sqn] t)) w.heap.size 0 l := by
  have h := heap_new w (.cells #[.string l.mode, .int .u64 l.ver, .bool l.cdr, .bool l.loc, .bool l.tol, .bool l.wri, .int .u64 l.tok, .int .u64 l.sqn] t)
  exact ⟨cell_of_heap h 0, cell_of_heap h 1, cell_of_heap h 2, cell_of_heap h 3, cell_of_heap h 4, cell_of_heap h 5, cell_of_heap h 6, cell_of_heap h 7⟩
theorem zzoc20r {w : World} {base s : Nat} {S : LD} (h : LS w base s S) {i : Nat} (hi : i < S.m) {r : ByteArray} (e : (S.O i).res = r) (R : Ending → World → Prop) (hR : R (.returned (.pointer (some ⟨S.B i, 0, none⟩))) w) :
    Calls Try.prog 20 #[.pointer (some ⟨s, 0, none⟩), .string r] w R := by subst e; exact zzoc20 h hi R hR
theorem zzou22r {w : World} {base s : Nat} {S : LD} (h : LS w base s S) {i : Nat} (hi : i < S.m) {r : ByteArray} (e : (S.O i).res = r) (R : Ending → World → Prop) (hR : R (.returned (.bool (S.F i))) w) :
    Calls Try.prog 22 #[.pointer (some ⟨s, 0, none⟩), .string r] w R := by subst e; exact zzou22 h hi R hR
theorem bx_lt {w : World} {b : Nat} {o : Obj} (h : w.heap[b]? = some o) : b < w.heap.size := (Array.getElem?_eq_some_iff.1 h).1

theorem rep_len_not {X : Nat → Lk} {k : Nat} (h : due (X k) = false) : (rep X (k + 1)).length = (rep X k).length := by rw [rep_succ]; simp [due1, h]
theorem rep_len_due {X : Nat → Lk} {k : Nat} (h : due (X k) = true) : (rep X (k + 1)).length = (rep X k).length + 1 := by rw [rep_succ]; simp [due1, h]
/-- the set behind 'tell', said of the law's own input -/
structure Told (S : LD) (N n : Nat) (I L : Nat → Lk) : Prop where
  eN : S.N = N
  em : S.m = n
  eu : S.u = 0
  eI : ∀ i, S.I i = if i < N then tldL (I i) else I i
  eO : ∀ i, i < n → S.O i = tldL (L i)
  eF : ∀ i, i < n → S.F i = false
theorem T_inj {I L : Nat → Lk} {N n u : Nat} {U : Nat → Int} (wf : WF I N L n U u) (i j : Nat) (h1 : i < j) (h2 : j < u) : (U i).toNat ≠ (U j).toNat := fun e => by
  have a1 := wf.rng i (by omega)
  have a2 := wf.rng j h2
  exact wf.uu i j h1 h2 (by omega)
theorem T_lt {I L : Nat → Lk} {N n u : Nat} {U : Nat → Int} (wf : WF I N L n U u) (j : Nat) (h : j < u) : (U j).toNat < n := by
  have a1 := wf.rng j h
  omega
theorem T_all {I L : Nat → Lk} {N n u : Nat} {U : Nat → Int} (wf : WF I N L n U u) (i : Nat) (hi : i < n) (hd : due (L i) = true) : ∃ j, j < u ∧ (U j).toNat = i := by
  simp only [due, Bool.and_eq_true, Bool.not_eq_true'] at hd
  obtain ⟨k, hk, e⟩ := wf.all i hi hd.1 hd.2
  exact ⟨k, hk, by omega⟩
theorem told_of {S : LD} {I L : Nat → Lk} {N n u : Nat} {U : Nat → Int} (wf : WF I N L n U u) (eN : S.N = N) (eI : S.I = I) (em : S.m = n) (eO : S.O = L) (eu : S.u = u) (eT : S.T = fun i => (U i).toNat) (hF : ∀ i, i < n → (S.F i = true ↔ ∃ j, j < u ∧ (U j).toNat = i)) (uv : Value) : Told (((S.tellI S.N).tellO S.u).setU 0 S.T uv) N n I L := by
  refine ⟨eN, em, rfl, fun i => ?_, fun i hi => ?_, fun i hi => ?_⟩
  · show (if i < S.N then tldL (S.I i) else S.I i) = _
    rw [eN, eI]
  · show (if inT S.T S.u i then tldL (S.O i) else S.O i) = _
    rw [eT, eu, eO]
    by_cases h : inT (fun i => (U i).toNat) u i = true
    · rw [if_pos h]
    · rw [if_neg h]
      refine (tldL_not_due ?_).symm
      rw [Bool.eq_false_iff]
      intro hd
      exact h ((inT_iff _ _ _).2 (T_all wf i hi hd))
  · show (if inT S.T S.u i then false else S.F i) = false
    rw [eT, eu]
    by_cases h : inT (fun i => (U i).toNat) u i = true
    · rw [if_pos h]
    · rw [if_neg h, Bool.eq_false_iff]
      intro hf
      exact h ((inT_iff _ _ _).2 ((hF i hi).1 hf))
theorem cq_I {I L : Nat → Lk} {N n u : Nat} {U : Nat → Int} (wf : WF I N L n U u) : ∀ i, i < N → due (I i) = true → cq (I i).res (I i).hd.mode (rep I N ++ rep (fun j => L (U j).toNat) u) = 1 := fun i hi hd => by
  rw [cq_append, cq_rep_one hd N hi (fun j hj e => ?_), cq_rep_zero u (fun j hj e => wf.io i (U j).toNat (by omega) (T_lt wf j hj) e.symm)]
  rcases Nat.lt_trichotomy j i with h | h | h
  · exact (wf.ii j i h (by omega) e).elim
  · exact h
  · exact (wf.ii i j h (by omega) e.symm).elim
theorem cq_L {I L : Nat → Lk} {N n u : Nat} {U : Nat → Int} (wf : WF I N L n U u) : ∀ i, i < n → due (L i) = true → cq (L i).res (L i).hd.mode (rep I N ++ rep (fun j => L (U j).toNat) u) = 1 := fun i hi hd => by
  obtain ⟨x, hx, e⟩ := T_all wf i hi hd
  have h1 := cq_rep_one (X := fun j => L (U j).toNat) (i := x) (by show due (L (U x).toNat) = true; rw [e]; exact hd) u hx (fun j hj e' => ?_)
  · replace h1 : cq (L (U x).toNat).res (L (U x).toNat).hd.mode (rep (fun j => L (U j).toNat) u) = 1 := h1
    rw [e] at h1
    rw [cq_append, h1, cq_rep_zero N (fun j hj e => wf.io j i (by omega) hi e)]
  · replace e' : (L (U j).toNat).res = (L (U x).toNat).res := e'
    have hjn := T_lt wf j hj
    rw [e] at e'
    have hji : (U j).toNat = i := by
      rcases Nat.lt_trichotomy (U j).toNat i with h | h | h
      · exact (wf.oo _ _ h hi e').elim
      · exact h
      · exact (wf.oo _ _ h hjn e'.symm).elim
    rcases Nat.lt_trichotomy j x with h | h | h
    · exact (T_inj wf j x h hx (hji.trans e.symm)).elim
    · exact h
    · exact (T_inj wf x j h hj (e.trans hji.symm)).elim
theorem len_G {I L : Nat → Lk} {N n u : Nat} {U : Nat → Int} (wf : WF I N L n U u) : (rep I N ++ rep (fun j => L (U j).toNat) u).length = (rep I N).length + (rep L n).length := by
  rw [List.length_append, rep_same (L := L) (n := n) (u := u) (T := fun j => (U j).toNat) (fun j hj => T_lt wf j hj) (fun i j h1 h2 => T_inj wf i j h1 h2) (fun i hi hd => T_all wf i hi hd)]

set_option maxRecDepth 100000 in
set_option maxHeartbeats 4000000 in
theorem law3 (w : World) (cs : Array Value) (hcs : cs.size = 36) (I : Nat → Lk) (hI : IpAt cs I) (x : Int) (a : Option Addr) (L : Nat → Lk) (n cap : Nat) (hL : OtAt w a n L) (hlen : ∀ i, i < n → (L i).res.size ≤ maxLen) (a2 : Option Addr) (u cap2 : Nat) (U : Nat → Int) (hU : UtAt w a2 u U)
    (R : Ending → World → Prop) (hR : ∀ w', Below w.heap.size w w' → R (.returned (.bool true)) w') :
    Calls Try.prog 3 #[.agg cs, .int .i64 x, .slice a n cap, .slice a2 u cap2] w R := by
  have b0 : Below w.heap.size w (w.alloc (.cells cs 27)) := (Below.refl _ _).alloc (Nat.le_refl _) _
  have hL0 := hL.below b0
  have hU0 := hU.below b0
  have s27 : Hid ((Try.prog.info? 27).map (·.size) = some cs.size) := by rw [hcs]; exact Try.size27
  have bx0 : (w.alloc (.cells cs 27)).heap[w.heap.size]? = some (.cells cs 27) := heap_new _ _
  clear hcs
  by_cases hx : 0 ≤ x ∧ x ≤ 4
  · obtain ⟨N, rfl⟩ : ∃ N : Nat, x = N := ⟨x.toNat, by omega⟩
    have hN : N ≤ 4 := by omega
    clear hx
    go_enter Try.func3, Try.ntmps3
    go_wp2_with (first
      | (refine wpList_load_row rfl 27 _ rfl w.heap.size rfl 27 cs (0, 0) _ (by assumption) Try.underlying27 rfl s27.out ?_)
      | (go_at_call 7; refine bytes7 cs I hI N a L n cap a2 u cap2 _ hL0 _ (fun q1 w1 hb1 => ?_); have B1 := boxB hb1; have bx1 := blk hb1 bx0 (by simp); have hL1 := hL.below B1; have hU1 := hU.below B1; clear hb1; cases q1)
      | (go_at_call 8; refine tooBig8 cs I hI a L n cap a2 u cap2 _ _ _ hL1 _ (fun q2 w2 h2 hb2 => ?_); have B2 := B1.trans (hb2.mono B1.size); have bx2 := blk hb2 bx1 (bx_lt bx1); have hL2 := hL.below B2; have hU2 := hU.below B2; clear hb2; obtain ⟨rfl, hn, hu⟩ | rfl : (q2 = false ∧ n ≤ 4096 ∧ u ≤ 4096) ∨ q2 = true := (by cases q2 with | false => exact .inl ⟨rfl, h2 rfl⟩ | true => exact .inr rfl); all_goals clear h2)
      | (go_at_call 9; (refine wellFormed9 cs I hI N a L n cap hn a2 u cap2 hu U _ hL2 hU2 _ (fun q3 w3 h3 hb3 => ?_)); have B3 := B2.trans (hb3.mono B2.size); have bx3 := blk hb3 bx2 (bx_lt bx2); have hL3 := hL.below B3; have hU3 := hU.below B3; clear hb3; obtain rfl | ⟨rfl, wf⟩ : q3 = false ∨ (q3 = true ∧ WF I N L n U u) := (by cases q3 with | false => exact .inl rfl | true => exact .inr ⟨rfl, h3 rfl⟩); all_goals clear h3)
      | (go_at_call 10; refine copyLocks10 a L n cap hn _ hL3 _ (fun a4 cap4 w4 hL4 hb4 => ?_); have B4 := B3.trans (hb4.mono B3.size); have bx4 := blk hb4 bx3 (bx_lt bx3); have hU4 := hU.below B4; clear hb4)
      | (go_at_call 11; refine copyInts11 a2 U u cap2 hu _ hU4 _ (fun a5 cap5 w5 hU5 hb5 => ?_); have B5 := B4.trans (hb5.mono B4.size); have bx5 := blk hb5 bx4 (bx_lt bx4); have hL5 := hL4.below hb5; clear hb5)
      | (go_at_call 12; refine make12 _ cs I hI N hN a4 L n cap4 hn hL5 a5 u cap5 hu (fun i => (U i).toNat) (hU5.congr (fun i hi => Int.toNat_of_nonneg (wf.rng i hi).1)) (fun k hk => by have := wf.rng k hk; omega) (fun i j h1 h2 e => wf.uu i j h1 h2 (by have := wf.rng i (by omega); have := wf.rng j h2; omega)) wf.oo hlen _ (fun s S w6 hls eN eI em eO eu eT hF hb6 => ?_); have HS := hide (And.intro eN (And.intro eI (And.intro em (And.intro eO (And.intro eu (And.intro eT hF)))))); have B6 := B5.trans (hb6.mono B5.size); have bx6 := blk hb6 bx5 (bx_lt bx5); have hL6 := hL5.below hb6; have hz6 := hb6.size; have K6 := hb6; clear hb6 eN eI em eO eu eT hF))
    · exact B1
    · exact B3
    · -- behind zzMake
      obtain ⟨eN, eI, em, eO, eu, eT, hF⟩ := HS.out
      have hinj : ∀ i j, i < j → j < S.u → S.T i ≠ S.T j := fun i j h1 h2 => by
        rw [eT]; rw [eu] at h2
        exact T_inj wf i j h1 h2
      have hG : rep I N ++ rep (fun j => L (U j).toNat) u = rep S.I S.N ++ rep (fun j => S.O (S.T j)) S.u := by rw [eN, eI, eO, eu, eT]
      have told := told_of (S := S) wf eN eI em eO eu eT hF
      refine zztell13 w6 _ s S hls hz6 hinj _ hG _ (fun v w7 uv hown hls7 hbel7 hsz7 => ?_)
      replace told := told uv
      generalize ((S.tellI S.N).tellO S.u).setU 0 S.T uv = S1 at hls7 told
      have B7 := B6.trans (hbel7.mono B5.size)
      have bx7 := blk hbel7 bx6 (bx_lt bx5)
      have hL7 := hL5.below (K6.trans hbel7)
      have hGl : (rep I N ++ rep (fun j => L (U j).toNat) u).length ≤ 16000 := by
        have h1 := rep_len I N
        have h2 := rep_len (fun j => L (U j).toNat) u
        rw [List.length_append]; omega
      have cI : ∀ i, i < N → due (I i) = true → cq (I i).res (I i).hd.mode (rep I N ++ rep (fun j => L (U j).toNat) u) = 1 := cq_I wf
      have cL : ∀ i, i < n → due (L i) = true → cq (L i).res (L i).hd.mode (rep I N ++ rep (fun j => L (U j).toNat) u) = 1 := cq_L wf
      have cG : (rep I N ++ rep (fun j => L (U j).toNat) u).length = (rep I N).length + (rep L n).length := len_G wf
      generalize rep I N ++ rep (fun j => L (U j).toNat) u = G at hown hGl cI cL cG
      clear hls hG hinj HS eN eI em eO eu eT hF hL6 bx6 bx5 hL5 hU5 bx4 hL4 hU4 bx3 hL3 hU3 bx2 hL2 hU2 bx1 hL1 hU1 bx0 hL0 hU0 b0 B1 B2 B3 B4 B6 hbel7 K6
      obtain ⟨av, cv, rfl⟩ := ownsRow_slice hown
      have HW := hide (And.intro cI (And.intro cL (And.intro cG wf)))
      have hsw : w.heap.size ≤ w7.heap.size := B7.size
      clear cI cL cG wf hlen hL hU
      go_wp2_with fail
      go_loopg [11, 12] N (fun g wt i wr => ∃ k : Nat, k + g = N ∧ i = .int .i64 k ∧ wt = .int .i64 ((rep I k).length : Nat) ∧ Below w7.heap.size w7 wr)
      case atStart => exact ⟨0, by omega, rfl, rfl, Below.refl _ _⟩
      case round =>
        obtain ⟨k, hk, rfl, rfl, hb⟩ := hrel
        by_cases hlt : k < N
        · have bx := blk hb bx7 (bx_lt bx7)
          obtain ⟨c0, c1, c2, c3, c4, c5, c6, c7, c8⟩ := hI.at bx (show k < 4 by omega)
          have hrl := rep_len I k
          have hk' : (k : Int) < 4 := by omega
          have hwl : w7.heap.size ≤ wr.heap.size := hb.size
          have hrs := rep_succ I k
          have hcnt := fun hd => HW.out.1 k hlt hd
          have hown' := ownsRow_of_block hown (fun g hg => hb.block g (hown.lt g hg).2)
          generalize hlo : (I k).hd.loc = lo at c4
          generalize hto : (I k).hd.tol = tt at c5
          have HD : Hid (due (I k) = (lo && !tt)) := by show ((I k).hd.loc && !(I k).hd.tol) = _; rw [hlo, hto]
          have HR := hide (And.intro hrs hcnt)
          have HB := hide hb
          have HO := hide hown'
          clear hlo hto hrs hcnt hb bx hown'
          cases lo
          · go_wp2_with fail
            go_roundg (gk - 1)
            case rel => exact ⟨k + 1, by omega, by go_num, by rw [rep_len_not HD.out], HB.out.alloc hwl _⟩
            case measure => omega
          · cases tt
            · go_wp2_with (go_at_call 14; refine countG (HO.out.alloc _) (by omega) _ _ _ ?_; rw [HR.out.2 HD.out])
              go_roundg (gk - 1)
              case rel => exact ⟨k + 1, by omega, by go_num, by rw [rep_len_due HD.out]; go_num, HB.out.alloc hwl _⟩
              case measure => omega
            · go_wp2_with fail
              go_roundg (gk - 1)
              case rel => exact ⟨k + 1, by omega, by go_num, by rw [rep_len_not HD.out], HB.out.alloc hwl _⟩
              case measure => omega
        · obtain rfl : k = N := by omega
          have HB := hide hb
          clear hb hk hlt
          go_wp2_with fail
          go_loopg [11, 14] n (fun g wt i wr => ∃ k' : Nat, k' + g = n ∧ i = .int .i64 k' ∧ wt = .int .i64 (((rep I k).length + (rep L k').length : Nat)) ∧ Below w7.heap.size w7 wr)
          case atStart => exact ⟨0, by omega, rfl, rfl, HB.out⟩
          case round =>
            clear HB
            obtain ⟨j, hj, rfl, hwt, hb⟩ := hrel
            by_cases hlt : j < n
            · subst hwt
              obtain ⟨b, o, rfl, hbs, hc⟩ := (hL7.below hb) j hlt
              obtain ⟨c0, c1, c2, c3, c4, c5, c6, c7, c8⟩ := hc
              have hrl := rep_len I k
              have hrl2 := rep_len L j
              have hcnt := fun hd => HW.out.2.1 j hlt hd
              have hown' := ownsRow_of_block hown (fun g hg => hb.block g (hown.lt g hg).2)
              have hwl : w7.heap.size ≤ wr.heap.size := hb.size
              generalize hlo : (L j).hd.loc = lo at c4
              generalize hto : (L j).hd.tol = tt at c5
              have HD : Hid (due (L j) = (lo && !tt)) := by show ((L j).hd.loc && !(L j).hd.tol) = _; rw [hlo, hto]
              have HR := hide hcnt
              have HB := hide hb
              have HO := hide hown'
              clear hlo hto hcnt hb hown'
              cases lo
              · go_wp2_with fail
                go_roundg (gk - 1)
                case rel => exact ⟨j + 1, by omega, by go_num, by rw [rep_len_not HD.out], HB.out.alloc hwl _⟩
                case measure => omega
              · cases tt
                · go_wp2_with (go_at_call 14; refine countG (HO.out.alloc _) (by omega) _ _ _ ?_; rw [HR.out HD.out])
                  go_roundg (gk - 1)
                  case rel => exact ⟨j + 1, by omega, by go_num, by rw [rep_len_due HD.out]; go_num, HB.out.alloc hwl _⟩
                  case measure => omega
                · go_wp2_with fail
                  go_roundg (gk - 1)
                  case rel => exact ⟨j + 1, by omega, by go_num, by rw [rep_len_not HD.out], HB.out.alloc hwl _⟩
                  case measure => omega
            · obtain rfl : j = n := by omega
              rw [← HW.out.2.2.1] at hwt
              subst hwt
              have hlsr := hls7.below hb
              have HB := hide hb
              have t1 := hide told.eN
              have t2 := hide told.em
              have t3 := hide told.eu
              clear hb hj hlt
              go_wp2_with (first
                | (go_at_call 15; refine zzn15 hlsr _ ?_; rw [t1.out])
                | (go_at_call 16; refine zzol16 hlsr _ ?_; rw [t2.out])
                | (go_at_call 17; refine zzul17 hlsr _ ?_; rw [t3.out]))
              go_loopg [16] 4 (fun g i wr => ∃ q : Nat, q + g = 4 ∧ i = .int .i64 q ∧ Below w7.heap.size w7 wr)
              case atStart => exact ⟨0, rfl, rfl, HB.out⟩
              case round =>
                clear HB hlsr
                obtain ⟨q, hq, rfl, hb⟩ := hrel
                have hls := hls7.below hb
                by_cases hlt : q < 4
                · have bx := blk hb bx7 (bx_lt bx7)
                  obtain ⟨c0, c1, c2, c3, c4, c5, c6, c7, c8⟩ := hI.at bx hlt
                  have hq' : (q : Int) < 4 := by omega
                  have hip := hls.ip q hlt
                  have hslt := hls.lt
                  have hwl : w7.heap.size ≤ wr.heap.size := hb.size
                  have n26 := neq26
                  have g26 := eg26
                  generalize hlo : (I q).hd.loc = lo at c4
                  generalize hto : (I q).hd.tol = tt at c5
                  have HB := hide hb
                  clear hb bx hls
                  by_cases hqn : q < k
                  · cases lo
                    · have el : S1.I q = ⟨(I q).res, ⟨(I q).hd.mode, (I q).hd.ver, (I q).hd.cdr, false, tt, (I q).hd.wri, (I q).hd.tok, (I q).hd.sqn⟩⟩ := by
                        rw [told.eI, if_pos hqn]
                        simp only [tldL, tld, hlo, hto, Bool.or_false]
                      have EL := hide el
                      clear hlo hto el
                      go_wp2_with fail
                      go_region_with (first
                        | (go_at_call 19; refine zzip19 (S1.I q) q hlt (hip.below (((Below.refl _ _).alloc (Nat.le_refl _) _).drew) hslt) _ (fun w8 hb8 => ?_); rw [EL.out]; obtain ⟨hc8, hf8, _⟩ := bcellH (wr.alloc _) hb8 rfl; have z8 : wr.heap.size < w8.heap.size := alloc_lt hb8.size; have HB8 := hide hb8; clear hb8)
                        | (go_at_call 18; refine zzfrom18 ⟨(I q).res, ⟨(I q).hd.mode, (I q).hd.ver, (I q).hd.cdr, false, tt, (I q).hd.wri, (I q).hd.tok, (I q).hd.sqn⟩⟩ _ _ (fun w9 hb9 => ?_); obtain ⟨hc9, hf9⟩ := bcell hb9; have HB9 := hide hb9; clear hb9))
                      all_goals
                        go_wp2
                        go_roundg (4 - (q + 1))
                        case rel => exact ⟨q + 1, by omega, by go_num, (HB.out.alloc hwl _).trans (((Below.refl _ _).drew.trans (HB8.out.mono (by simp; omega))).trans (HB9.out.mono (by omega)))⟩
                        case measure => omega
                    · have el : S1.I q = ⟨(I q).res, ⟨(I q).hd.mode, (I q).hd.ver, (I q).hd.cdr, true, true, (I q).hd.wri, (I q).hd.tok, (I q).hd.sqn⟩⟩ := by
                        rw [told.eI, if_pos hqn]
                        simp only [tldL, tld, hlo, hto, Bool.or_true]
                      have EL := hide el
                      clear hlo hto el
                      go_wp2_with fail
                      go_region_with (first
                        | (go_at_call 19; refine zzip19 (S1.I q) q hlt (hip.below (((Below.refl _ _).alloc (Nat.le_refl _) _).drew) hslt) _ (fun w8 hb8 => ?_); rw [EL.out]; obtain ⟨hc8, hf8, _⟩ := bcellH (wr.alloc _) hb8 rfl; have z8 : wr.heap.size < w8.heap.size := alloc_lt hb8.size; have HB8 := hide hb8; clear hb8)
                        | (go_at_call 18; refine zzfrom18 ⟨(I q).res, ⟨(I q).hd.mode, (I q).hd.ver, (I q).hd.cdr, true, true, (I q).hd.wri, (I q).hd.tok, (I q).hd.sqn⟩⟩ _ _ (fun w9 hb9 => ?_); obtain ⟨hc9, hf9⟩ := bcell hb9; have HB9 := hide hb9; clear hb9))
                      all_goals
                        go_wp2
                        go_roundg (4 - (q + 1))
                        case rel => exact ⟨q + 1, by omega, by go_num, (HB.out.alloc hwl _).trans (((Below.refl _ _).drew.trans (HB8.out.mono (by simp; omega))).trans (HB9.out.mono (by omega)))⟩
                        case measure => omega
                  · have dq : decide ((q : Int) < (k : Int)) = false := by simp; omega
                    have el : S1.I q = ⟨(I q).res, ⟨(I q).hd.mode, (I q).hd.ver, (I q).hd.cdr, lo, tt, (I q).hd.wri, (I q).hd.tok, (I q).hd.sqn⟩⟩ := by
                      rw [told.eI, if_neg hqn, ← hlo, ← hto]
                    have EL := hide el
                    clear hlo hto el
                    go_wp2_with fail
                    go_region_with (first
                      | (go_at_call 19; refine zzip19 (S1.I q) q hlt (hip.below (((Below.refl _ _).alloc (Nat.le_refl _) _).drew) hslt) _ (fun w8 hb8 => ?_); rw [EL.out]; obtain ⟨hc8, hf8, _⟩ := bcellH (wr.alloc _) hb8 rfl; have z8 : wr.heap.size < w8.heap.size := alloc_lt hb8.size; have HB8 := hide hb8; clear hb8)
                      | (go_at_call 18; refine zzfrom18 ⟨(I q).res, ⟨(I q).hd.mode, (I q).hd.ver, (I q).hd.cdr, lo, tt, (I q).hd.wri, (I q).hd.tok, (I q).hd.sqn⟩⟩ _ _ (fun w9 hb9 => ?_); obtain ⟨hc9, hf9⟩ := bcell hb9; have HB9 := hide hb9; clear hb9))
                    all_goals
                      go_wp2
                      go_roundg (4 - (q + 1))
                      case rel => exact ⟨q + 1, by omega, by go_num, (HB.out.alloc hwl _).trans (((Below.refl _ _).drew.trans (HB8.out.mono (by simp; omega))).trans (HB9.out.mono (by omega)))⟩
                      case measure => omega
                · obtain rfl : q = 4 := by omega
                  have HB := hide hb
                  clear hb hq hlt hls
                  go_wp2_with fail
                  go_loopg [18, 19] j (fun g i _ wr => ∃ q : Nat, q + g = j ∧ i = .int .i64 q ∧ Below w7.heap.size w7 wr)
                  case atStart => exact ⟨0, by omega, rfl, HB.out⟩
                  case round =>
                    clear HB
                    obtain ⟨q, hq, rfl, hb⟩ := hrel
                    have hls := hls7.below hb
                    by_cases hlt : q < j
                    · have hqm : q < S1.m := by rw [told.em]; exact hlt
                      obtain ⟨b, o, rfl, hbs, hc⟩ := (hL7.below hb) q hlt
                      obtain ⟨c0, c1, c2, c3, c4, c5, c6, c7, c8⟩ := hc
                      have er : (S1.O q).res = (L q).res := by rw [told.eO q hlt]; rfl
                      have hhd := hls.ohd q hqm
                      have eF := hide (told.eF q hlt)
                      have hblt := hls.ltb hqm
                      have hwl : w7.heap.size ≤ wr.heap.size := hb.size
                      have n24 := neq24
                      have g24 := eg24
                      generalize hlo : (L q).hd.loc = lo at c4
                      generalize hto : (L q).hd.tol = tt at c5
                      have HB := hide hb
                      have HLS := hide hls
                      have ER := hide er
                      have HU := hide (told.eO q hlt)
                      clear hb hls er
                      cases lo
                      · have el : (S1.O q).hd = ⟨(L q).hd.mode, (L q).hd.ver, (L q).hd.cdr, false, tt, (L q).hd.wri, (L q).hd.tok, (L q).hd.sqn⟩ := by
                          rw [HU.out]
                          simp only [tldL, tld, hlo, hto, Bool.or_false]
                        have EL := hide el
                        clear hlo hto el
                        go_wp2_with (first
                          | (go_at_call 20; refine zzoc20r HLS.out hqm ER.out _ ?_))
                        go_region_with (go_at_call 21; refine zzread21 (S1.O q).hd (S1.B q) 0 _ (hhd.below (((Below.refl _ _).alloc (Nat.le_refl _) _).drew) hblt) _ (fun w8 hb8 => ?_); rw [EL.out]; obtain ⟨hc8, hf8, _⟩ := bcellH (wr.alloc _) hb8 rfl; have HB8 := hide (boxBd hb8); clear hb8)
                        all_goals
                          go_wp2_with (first
                            | (go_at_call 22; refine zzou22r (HLS.out.below HB8.out) hqm ER.out _ ?_; rw [eF.out]))
                          go_roundg (j - (q + 1))
                          case rel => exact ⟨q + 1, by omega, by go_num, HB.out.trans (HB8.out.mono hwl)⟩
                          case measure => omega
                      · have el : (S1.O q).hd = ⟨(L q).hd.mode, (L q).hd.ver, (L q).hd.cdr, true, true, (L q).hd.wri, (L q).hd.tok, (L q).hd.sqn⟩ := by
                          rw [HU.out]
                          simp only [tldL, tld, hlo, hto, Bool.or_true]
                        have EL := hide el
                        clear hlo hto el
                        go_wp2_with (first
                          | (go_at_call 20; refine zzoc20r HLS.out hqm ER.out _ ?_))
                        go_region_with (go_at_call 21; refine zzread21 (S1.O q).hd (S1.B q) 0 _ (hhd.below (((Below.refl _ _).alloc (Nat.le_refl _) _).drew) hblt) _ (fun w8 hb8 => ?_); rw [EL.out]; obtain ⟨hc8, hf8, _⟩ := bcellH (wr.alloc _) hb8 rfl; have HB8 := hide (boxBd hb8); clear hb8)
                        all_goals
                          go_wp2_with (first
                            | (go_at_call 22; refine zzou22r (HLS.out.below HB8.out) hqm ER.out _ ?_; rw [eF.out]))
                          go_roundg (j - (q + 1))
                          case rel => exact ⟨q + 1, by omega, by go_num, HB.out.trans (HB8.out.mono hwl)⟩
                          case measure => omega
                    · obtain rfl : q = j := by omega
                      have hz : w5.heap.size ≤ wr.heap.size := Nat.le_trans hls7.hbase (Nat.le_of_lt (Nat.lt_of_lt_of_le hls7.lt hb.size))
                      have hG2 : ([] : List (ByteArray × ByteArray)) = rep S1.I S1.N ++ rep (fun x => S1.O (S1.T x)) S1.u := by
                        rw [told.eu, told.eN, rep_told S1.I k (fun i hi => by rw [told.eI, if_pos hi]; exact due_tldL _)]
                        rfl
                      have HB := hide hb
                      have HLS := hide hls
                      have HG := hide hG2
                      have hj0 : ∀ i j, i < j → j < S1.u → S1.T i ≠ S1.T j := fun i j h1 h2 => by rw [told.eu] at h2; omega
                      clear hb hls hG2
                      go_wp2_with (first
                        | (go_at_call 13; refine zztell13 _ _ s S1 HLS.out hz hj0 [] HG.out _ (fun v9 w9 uv9 hown9 hls9 hbel9 hsz9 => ?_); obtain ⟨a9, c9, rfl⟩ := ownsRow_slice hown9; have HB9 := hide hbel9; clear hown9 hls9 hbel9))
                      exact (B7.trans (HB.out.mono hsw)).trans (HB9.out.mono B5.size)
    · exact B2
  · go_enter Try.func3, Try.ntmps3
    go_wp2_with (first
      | (refine wpList_load_row rfl 27 _ rfl w.heap.size rfl 27 cs (0, 0) _ (by assumption) Try.underlying27 rfl s27.out ?_)
      | (go_at_call 7; refine bytes7 cs I hI x a L n cap a2 u cap2 _ hL0 _ (fun q1 w1 hb1 => ?_); have B1 := boxB hb1; have bx1 := blk hb1 bx0 (by simp); have hL1 := hL.below B1; have hU1 := hU.below B1; clear hb1; cases q1)
      | (go_at_call 8; refine tooBig8 cs I hI a L n cap a2 u cap2 _ _ _ hL1 _ (fun q2 w2 h2 hb2 => ?_); have B2 := B1.trans (hb2.mono B1.size); have bx2 := blk hb2 bx1 (bx_lt bx1); have hL2 := hL.below B2; have hU2 := hU.below B2; clear hb2; obtain ⟨rfl, hn, hu⟩ | rfl : (q2 = false ∧ n ≤ 4096 ∧ u ≤ 4096) ∨ q2 = true := (by cases q2 with | false => exact .inl ⟨rfl, h2 rfl⟩ | true => exact .inr rfl); all_goals clear h2)
      | (go_at_call 9; (refine wellFormed9 cs I hI x a L n cap hn a2 u cap2 hu U _ hL2 hU2 _ (fun q3 w3 h3 hb3 => ?_)); have B3 := B2.trans (hb3.mono B2.size); clear hb3; obtain rfl : q3 = false := (by cases q3 with | false => rfl | true => exact (hx ⟨(h3 rfl).lo, (h3 rfl).hi⟩).elim); clear h3))
    · exact B1
    · exact B3
    · exact B2

end Go.Proofs.Qxb6605402a
