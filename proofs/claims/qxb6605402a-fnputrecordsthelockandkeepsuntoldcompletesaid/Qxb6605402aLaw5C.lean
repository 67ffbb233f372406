import Derived.Test.Qxb6605402aT21C
namespace Go.Proofs.Qxb6605402a
open Go.RowKit Go.Maps
set_option linter.unusedVariables false
set_option linter.unusedSimpArgs false

set_option maxRecDepth 100000 in
set_option maxHeartbeats 10000000 in
theorem law5C (w : World) (cs : Array Value) (hcs : cs.size = 36) (I : Nat → Lk) (hI : IpAt cs I) (N : Nat) (hN : N ≤ 4) (a : Option Addr) (L : Nat → Lk) (n cap : Nat) (hL : OtAt w a n L) (hlen : ∀ i, i < n → (L i).res.size ≤ maxLen) (a2 : Option Addr) (u cap2 : Nat) (U : Nat → Int) (hU : UtAt w a2 u U) (r : ByteArray) (hr : r.size ≤ maxLen)
    (mode : ByteArray) (ver : Int) (cdr lo tt wri : Bool) (tok sqn : Int) (hN4 : N < 4) (hnI : ∀ i, i < N → (I i).res ≠ r) (hnO : ∀ i, i < n → (L i).res ≠ r) (R : Ending → World → Prop) (hR : ∀ w', Below w.heap.size w w' → R (.returned (.bool true)) w') :
    Calls Try.prog 5 #[.agg cs, .int .i64 (N : Int), .slice a n cap, .slice a2 u cap2, .string r, .agg #[.string mode, .int .u64 ver, .bool cdr, .bool lo, .bool tt, .bool wri, .int .u64 tok, .int .u64 sqn]] w R := by
  have b0 : Below w.heap.size w ((w.alloc (.cells cs 27)).alloc (.cells #[.string mode, .int .u64 ver, .bool cdr, .bool lo, .bool tt, .bool wri, .int .u64 tok, .int .u64 sqn] 24)) := two_below w _ _
  have hL0 := hL.below b0
  have hU0 := hU.below b0
  have s27 : Hid ((Try.prog.info? 27).map (·.size) = some cs.size) := by rw [hcs]; exact Try.size27
  have s24 : Hid ((Try.prog.info? 24).map (·.size) = some (#[Value.string mode, .int .u64 ver, .bool cdr, .bool lo, .bool tt, .bool wri, .int .u64 tok, .int .u64 sqn]).size) := Try.size24
  have bx0 : ((w.alloc (.cells cs 27)).alloc (.cells #[.string mode, .int .u64 ver, .bool cdr, .bool lo, .bool tt, .bool wri, .int .u64 tok, .int .u64 sqn] 24)).heap[w.heap.size]? = some (.cells cs 27) := heap_old _ (heap_new _ _)
  have hx0 : ((w.alloc (.cells cs 27)).alloc (.cells #[.string mode, .int .u64 ver, .bool cdr, .bool lo, .bool tt, .bool wri, .int .u64 tok, .int .u64 sqn] 24)).heap[w.heap.size + 1]? = some (.cells #[.string mode, .int .u64 ver, .bool cdr, .bool lo, .bool tt, .bool wri, .int .u64 tok, .int .u64 sqn] 24) := heap_new2 _ _ _
  clear hcs
  go_enter Try.func5, Try.ntmps5
  go_upto_region 11 with (first
    | (refine wpList_load_row rfl 27 _ rfl w.heap.size rfl 27 cs (0, 0) _ (by assumption) Try.underlying27 rfl s27.out ?_)
    | (refine wpList_load_row rfl 24 _ rfl (w.heap.size + 1) rfl 24 _ (0, 0) _ (by assumption) Try.underlying24 rfl s24.out ?_)
    | (go_at_call 30; refine bytes30 cs I hI N a L n cap a2 u cap2 r ⟨mode, ver, cdr, lo, tt, wri, tok, sqn⟩ _ hL0 _ (fun q1 w1 hb1 => ?_); have B1 := b0.trans (hb1.mono b0.size); have bx1 := blk hb1 bx0 (bx_lt bx0); have hx1 := blk hb1 hx0 (bx_lt hx0); have m1 := cell_of_heap hx1 0; have hL1 := hL.below B1; have hU1 := hU.below B1; clear hb1; cases q1)
    | (go_at_call 8; refine tooBig8 cs I hI a L n cap a2 u cap2 _ _ _ hL1 _ (fun q2 w2 h2 hb2 => ?_); have B2 := B1.trans (hb2.mono B1.size); have bx2 := blk hb2 bx1 (bx_lt bx1); have hx2 := blk hb2 hx1 (bx_lt hx1); have hL2 := hL.below B2; have hU2 := hU.below B2; clear hb2; obtain ⟨rfl, hn, hu⟩ | rfl : (q2 = false ∧ n ≤ 4096 ∧ u ≤ 4096) ∨ q2 = true := (by cases q2 with | false => exact .inl ⟨rfl, h2 rfl⟩ | true => exact .inr rfl); all_goals clear h2)
    | (go_at_call 9; (refine wellFormed9 cs I hI N a L n cap hn a2 u cap2 hu U _ hL2 hU2 _ (fun q3 w3 h3 hb3 => ?_)); have B3 := B2.trans (hb3.mono B2.size); have bx3 := blk hb3 bx2 (bx_lt bx2); have hx3 := blk hb3 hx2 (bx_lt hx2); have hL3 := hL.below B3; have hU3 := hU.below B3; clear hb3; obtain rfl | ⟨rfl, wf⟩ : q3 = false ∨ (q3 = true ∧ WF I N L n U u) := (by cases q3 with | false => exact .inl rfl | true => exact .inr ⟨rfl, h3 rfl⟩); all_goals clear h3)
    | (go_at_call 10; refine copyLocks10 a L n cap hn _ hL3 _ (fun a4 cap4 w4 hL4 hb4 => ?_); have B4 := B3.trans (hb4.mono B3.size); have bx4 := blk hb4 bx3 (bx_lt bx3); have hx4 := blk hb4 hx3 (bx_lt hx3); have hU4 := hU.below B4; clear hb4)
    | (go_at_call 11; refine copyInts11 a2 U u cap2 hu _ hU4 _ (fun a5 cap5 w4b hU4b hb4b => ?_); have B4b := B4.trans (hb4b.mono B4.size); have bx4b := blk hb4b bx4 (bx_lt bx4); have hx4b := blk hb4b hx4 (bx_lt hx4); have hL4b := hL4.below hb4b; clear hb4b)
    | (go_at_call 24; refine find24 cs I hI N hN a4 L n cap4 hn r _ hL4b _ (fun p q w5 hp hq hb5 => ?_); have B5 := B4b.trans (hb5.mono B4b.size); have bx5 := blk hb5 bx4b (bx_lt bx4b); have hx5 := blk hb5 hx4b (bx_lt hx4b); have hL5 := hL4b.below hb5; have hU5 := hU4b.below hb5; clear hb5; obtain rfl : p = -1 := (by rcases hp with ⟨h2, _⟩ | ⟨i, hi, _, e⟩; exact h2; exact (hnI i hi e).elim); obtain rfl : q = -1 := (by rcases hq with ⟨h2, _⟩ | ⟨i, hi, _, e⟩; exact h2; exact (hnO i hi e).elim); clear hp hq)
    | (go_at_call 12; refine make12 _ cs I hI N hN a4 L n cap4 hn hL5 a5 u cap5 hu (fun i => (U i).toNat) (hU5.congr (fun i hi => Int.toNat_of_nonneg (wf.rng i hi).1)) (fun k hk => by have := wf.rng k hk; omega) (fun i j h1 h2 e => wf.uu i j h1 h2 (by have := wf.rng i (by omega); have := wf.rng j h2; omega)) wf.oo hlen _ (fun s S w6 hls eN eI em eO eu eT hF hb6 => ?_); have HS := hide (And.intro eN (And.intro eI (And.intro em (And.intro eO (And.intro eu (And.intro eT hF)))))); have B6 := B5.trans (hb6.mono B5.size); have bx6 := blk hb6 bx5 (bx_lt bx5); have hx6 := blk hb6 hx5 (bx_lt hx5); have hz6 := hb6.size; have K6 := hb6; clear hb6 eN eI em eO eu eT hF))
  · exact B1
  · exact B3
  · -- behind zzMake
    obtain ⟨eN, eI, em, eO, eu, eT, hF⟩ := HS.out
    have ws := WS.of_make wf eN eI em eO eu eT hF
    have hUb : UtAt w5 a5 u (fun j => (S.T j : Int)) := hU5.congr (fun i hi => by rw [eT]; exact Int.toNat_of_nonneg (wf.rng i hi).1)
    have hTS : ∀ j, j < S.u → S.T j < S.m := fun j hj => by have := ws.1.rng j hj; omega
    have hLb := hL5
    have HX5 := hide (And.intro bx5 hx5)
    clear HS hF wf hlen hL hU eT
    subst eN eI em eO eu
    have HH := hide hls
    have HWS := hide ws
    have HFS := hide ws.2
    have slt := hls.lt
    have hS4 : S.N ≤ 4 := hls.hN
    clear bx5 hx5 hL5 hU5 bx4b hx4b hL4b hU4b bx4 hx4 hL4 hU4 bx3 hx3 hL3 hU3 bx2 hx2 hL2 hU2 bx1 hx1 m1 hL1 hU1 bx0 hx0 hL0 hU0 b0 B1 B2 B3 B4 B4b hls ws
    have HNo : Hid (NoI S r ∧ NoO S r) := ⟨fun i hi => hnI i hi, fun i hi => hnO i hi⟩
    clear hnI hnO
    go_upto_region 12 with (go_at_call 25; refine of25N HH.out HNo.out.1 HNo.out.2 hr _ (fun n1 => ?_))
    obtain ⟨wd, ewd⟩ : ∃ wd, w6.drewN n1 = wd := ⟨_, rfl⟩
    have hbd := Below_drewN (Below.refl w6.heap.size w6) n1
    have hszd : w6.heap.size ≤ wd.heap.size := by rw [← ewd]; exact Nat.le_refl _
    rw [ewd] at hbd ⊢
    clear ewd
    have hxd := blk hbd hx6 (bx_lt hx6)
    have k1 := cell_of_heap hxd 0
    have k2 := cell_of_heap hxd 1
    have k3 := cell_of_heap hxd 2
    have k4 := cell_of_heap hxd 3
    have k5 := cell_of_heap hxd 4
    have k6 := cell_of_heap hxd 5
    have k7 := cell_of_heap hxd 6
    have k8 := cell_of_heap hxd 7
    have hzd : w5.heap.size ≤ wd.heap.size := Nat.le_trans hz6 hszd
    have HLD := hide (HH.out.below hbd)
    have HBD := hide (hbd.mono hz6)
    clear hbd hxd hszd
    go_upto_region 13 with (go_at_call 31; refine zzputC wd _ s S HLD.out hzd (by omega) (by omega) HWS.out r hr ⟨mode, ver, cdr, lo, tt, wri, tok, sqn⟩ hN4 HNo.out.1 HNo.out.2 _ (fun w7 hls7 ws7 hb7 => ?_); have HA := hide (And.intro hls7 (And.intro ws7 hb7)); clear hls7 ws7 hb7)
    obtain ⟨hls7, ws7, hb7⟩ := HA.out
    have K7 := (K6.trans HBD.out).trans hb7
    have qi := QI.mk' (Nat.lt_succ_self S.N) hN4 ws7
    generalize S.setS (S.N + 1) (updI S.I S.N ⟨r, ⟨mode, ver, cdr, lo, tt, wri, tok, sqn⟩⟩) = S' at hls7 qi
    have q5 := Q5.of_qi qi
    have B7 := B5.trans (K7.mono B5.size)
    have bx7 := blk K7 HX5.out.1 (bx_lt HX5.out.1)
    have hx7 := blk K7 HX5.out.2 (bx_lt HX5.out.2)
    have HX := hide (And.intro bx7 hx7)
    have HQ := hide (And.intro (hLb.below K7) (hUb.below K7))
    have H7 := hide (And.intro hls7 q5)
    have slt7 := hls7.lt
    have hxl := bx_lt hx7
    have e0 := cell_of_heap hx7 0
    have e1 := cell_of_heap hx7 1
    have e2 := cell_of_heap hx7 2
    have e3 := cell_of_heap hx7 3
    have e4 := cell_of_heap hx7 4
    have e5 := cell_of_heap hx7 5
    have e6 := cell_of_heap hx7 6
    have e7 := cell_of_heap hx7 7
    have n45 := nep45
    have n24 := neq24
    have g24 := eg24
    have HQI := hide qi
    have hk4 : S.N < 4 := HQI.out.h4
    have HIP := hide (show LkAt w7 s (S.N * 9) ⟨r, ⟨mode, ver, cdr, lo, tt, wri, tok, sqn⟩⟩ by have := hls7.ip S.N hk4; rw [HQI.out.kI] at this; exact this)
    have hpb : HdAt w7 s (S.N * 9 + 1) ⟨mode, ver, cdr, lo, tt, wri, tok, sqn⟩ := HIP.out.hd
    have hplt : s < w7.heap.size := hls7.lt
    have ERK := hide (show (S'.I S.N).res = r by rw [HQI.out.kI])
    have EKN := hide (show S.N < S'.N by rw [HQI.out.eN]; exact HQI.out.hk)
    have EN := hide (show ((S'.N : Nat) : Int) = (S.N : Int) + 1 by rw [HQI.out.eN]; omega)
    have EM := hide (show ((S'.m : Nat) : Int) = (S.m : Int) by rw [HQI.out.em])
    clear qi q5 hls7 ws7 hb7 K7 bx7 hx7 HA k1 k2 k3 k4 k5 k6 k7 k8 bx6 hx6 HLD HBD hzd hLb hUb HX5
    go_upto_region 19 with (go_at_call 25; refine of25I H7.out.1 H7.out.2.ws.ds EKN.out ERK.out _ (fun n2 => ?_))
    rename (∀ (a : Act) (w : World), Code.wp Try.prog ((Try.f5.body.bind (fromR 21)).getD Code.skip) (bodyPost Try.prog Try.f5 R) a w → _) => hk21
    replace hk21 := hide hk21
    go_region_with (go_at_call 21; refine zzread21 ⟨mode, ver, cdr, lo, tt, wri, tok, sqn⟩ s (S.N * 9 + 1) _ (hpb.below ((Below_drewN (Below.refl _ _) n2).drew) hplt) _ (fun w9 hb9 => ?_); obtain ⟨hc9, hf9, _⟩ := bcellH w7 hb9 rfl; have HB9 := hide ((Below_drewN (Below.refl _ w7) n2).drew.trans hb9); clear hb9)
    all_goals
      go_wp2
      exact t21C hR hI hTS HFS hn hu B7 HX HQ H7 HB9.out HQI hN4 hk21.out
  · exact B2

end Go.Proofs.Qxb6605402a
