import Derived.Test.Qxb6605402aZPut
namespace Go.Proofs.Qxb6605402a
open Go.RowKit Go.Maps
set_option linter.unusedVariables false
set_option linter.unusedSimpArgs false

theorem Try.size24 : (Try.prog.info? 24).map (·.size) = some 8 := by kernel_rfl
theorem two_below (w : World) (o p : Obj) : Below w.heap.size w ((w.alloc o).alloc p) := ((Below.refl _ _).alloc (Nat.le_refl _) _).alloc (by simp) _

theorem told_none {S1 : LD} {N n : Nat} {I L : Nat → Lk} (t : Told S1 N n I L) : ([] : List (ByteArray × ByteArray)) = rep S1.I S1.N ++ rep (fun x => S1.O (S1.T x)) S1.u := by
  rw [t.eu, t.eN, rep_told S1.I N (fun i hi => by rw [t.eI, if_pos hi]; exact due_tldL _)]
  rfl
theorem hx_drewN {w : World} {b : Nat} {o : Obj} (h : w.heap[b]? = some o) (n : Nat) : (w.drewN n).heap[b]? = some o := h

set_option maxRecDepth 100000 in
set_option maxHeartbeats 10000000 in
theorem law6 (w : World) (cs : Array Value) (hcs : cs.size = 36) (I : Nat → Lk) (hI : IpAt cs I) (x : Int) (a : Option Addr) (L : Nat → Lk) (n cap : Nat) (hL : OtAt w a n L) (hlen : ∀ i, i < n → (L i).res.size ≤ maxLen) (a2 : Option Addr) (u cap2 : Nat) (U : Nat → Int) (hU : UtAt w a2 u U) (r : ByteArray) (hr : r.size ≤ maxLen)
    (mode : ByteArray) (ver : Int) (cdr lo tt wri : Bool) (tok sqn : Int) (R : Ending → World → Prop) (hR : ∀ w', Below w.heap.size w w' → R (.returned (.bool true)) w') :
    Calls Try.prog 6 #[.agg cs, .int .i64 x, .slice a n cap, .slice a2 u cap2, .string r, .agg #[.string mode, .int .u64 ver, .bool cdr, .bool lo, .bool tt, .bool wri, .int .u64 tok, .int .u64 sqn]] w R := by
  have b0 : Below w.heap.size w ((w.alloc (.cells cs 27)).alloc (.cells #[.string mode, .int .u64 ver, .bool cdr, .bool lo, .bool tt, .bool wri, .int .u64 tok, .int .u64 sqn] 24)) := two_below w _ _
  have hL0 := hL.below b0
  have hU0 := hU.below b0
  have s27 : Hid ((Try.prog.info? 27).map (·.size) = some cs.size) := by rw [hcs]; exact Try.size27
  have s24 : Hid ((Try.prog.info? 24).map (·.size) = some (#[Value.string mode, .int .u64 ver, .bool cdr, .bool lo, .bool tt, .bool wri, .int .u64 tok, .int .u64 sqn]).size) := Try.size24
  have bx0 : ((w.alloc (.cells cs 27)).alloc (.cells #[.string mode, .int .u64 ver, .bool cdr, .bool lo, .bool tt, .bool wri, .int .u64 tok, .int .u64 sqn] 24)).heap[w.heap.size]? = some (.cells cs 27) := heap_old _ (heap_new _ _)
  have hx0 : ((w.alloc (.cells cs 27)).alloc (.cells #[.string mode, .int .u64 ver, .bool cdr, .bool lo, .bool tt, .bool wri, .int .u64 tok, .int .u64 sqn] 24)).heap[w.heap.size + 1]? = some (.cells #[.string mode, .int .u64 ver, .bool cdr, .bool lo, .bool tt, .bool wri, .int .u64 tok, .int .u64 sqn] 24) := heap_new2 _ _ _
  clear hcs
  by_cases hx : 0 ≤ x ∧ x ≤ 4
  · obtain ⟨N, rfl⟩ : ∃ N : Nat, x = N := ⟨x.toNat, by omega⟩
    have hN : N ≤ 4 := by omega
    clear hx
    go_enter Try.func6, Try.ntmps6
    go_wp2_with (first
      | (refine wpList_load_row rfl 27 _ rfl w.heap.size rfl 27 cs (0, 0) _ (by assumption) Try.underlying27 rfl s27.out ?_)
      | (refine wpList_load_row rfl 24 _ rfl (w.heap.size + 1) rfl 24 _ (0, 0) _ (by assumption) Try.underlying24 rfl s24.out ?_)
      | (go_at_call 33; refine bytes33 cs I hI N a L n cap a2 u cap2 r ⟨mode, ver, cdr, lo, tt, wri, tok, sqn⟩ _ hL0 _ (fun q1 w1 hb1 => ?_); have B1 := b0.trans (hb1.mono b0.size); have bx1 := blk hb1 bx0 (bx_lt bx0); have hx1 := blk hb1 hx0 (bx_lt hx0); have m1 := cell_of_heap hx1 0; have hL1 := hL.below B1; have hU1 := hU.below B1; clear hb1; cases q1)
      | (go_at_call 8; refine tooBig8 cs I hI a L n cap a2 u cap2 _ _ _ hL1 _ (fun q2 w2 h2 hb2 => ?_); have B2 := B1.trans (hb2.mono B1.size); have bx2 := blk hb2 bx1 (bx_lt bx1); have hx2 := blk hb2 hx1 (bx_lt hx1); have hL2 := hL.below B2; have hU2 := hU.below B2; clear hb2; obtain ⟨rfl, hn, hu⟩ | rfl : (q2 = false ∧ n ≤ 4096 ∧ u ≤ 4096) ∨ q2 = true := (by cases q2 with | false => exact .inl ⟨rfl, h2 rfl⟩ | true => exact .inr rfl); all_goals clear h2)
      | (go_at_call 9; (refine wellFormed9 cs I hI N a L n cap hn a2 u cap2 hu U _ hL2 hU2 _ (fun q3 w3 h3 hb3 => ?_)); have B3 := B2.trans (hb3.mono B2.size); have bx3 := blk hb3 bx2 (bx_lt bx2); have hx3 := blk hb3 hx2 (bx_lt hx2); have hL3 := hL.below B3; have hU3 := hU.below B3; clear hb3; obtain rfl | ⟨rfl, wf⟩ : q3 = false ∨ (q3 = true ∧ WF I N L n U u) := (by cases q3 with | false => exact .inl rfl | true => exact .inr ⟨rfl, h3 rfl⟩); all_goals clear h3)
      | (go_at_call 10; refine copyLocks10 a L n cap hn _ hL3 _ (fun a4 cap4 w4 hL4 hb4 => ?_); have B4 := B3.trans (hb4.mono B3.size); have bx4 := blk hb4 bx3 (bx_lt bx3); have hx4 := blk hb4 hx3 (bx_lt hx3); have hU4 := hU.below B4; clear hb4)
      | (go_at_call 11; refine copyInts11 a2 U u cap2 hu _ hU4 _ (fun a5 cap5 w5 hU5 hb5 => ?_); have B5 := B4.trans (hb5.mono B4.size); have bx5 := blk hb5 bx4 (bx_lt bx4); have hx5 := blk hb5 hx4 (bx_lt hx4); have hL5 := hL4.below hb5; clear hb5)
      | (go_at_call 12; refine make12 _ cs I hI N hN a4 L n cap4 hn hL5 a5 u cap5 hu (fun i => (U i).toNat) (hU5.congr (fun i hi => Int.toNat_of_nonneg (wf.rng i hi).1)) (fun k hk => by have := wf.rng k hk; omega) (fun i j h1 h2 e => wf.uu i j h1 h2 (by have := wf.rng i (by omega); have := wf.rng j h2; omega)) wf.oo hlen _ (fun s S w6 hls eN eI em eO eu eT hF hb6 => ?_); have HS := hide (And.intro eN (And.intro eI (And.intro em (And.intro eO (And.intro eu (And.intro eT hF)))))); have B6 := B5.trans (hb6.mono B5.size); have bx6 := blk hb6 bx5 (bx_lt bx5); have hx6 := blk hb6 hx5 (bx_lt hx5); have hL6 := hL5.below hb6; have hz6 := hb6.size; have K6 := hb6; clear hb6 eN eI em eO eu eT hF))
    · exact B1
    · exact B3
    · -- behind zzMake
      obtain ⟨eN, eI, em, eO, eu, eT, hF⟩ := HS.out
      have ws := WS.of_make wf eN eI em eO eu eT hF
      refine zzput31 w6 _ s S hls hz6 (by rw [eu]; omega) (by rw [em]; omega) ws r hr ⟨mode, ver, cdr, lo, tt, wri, tok, sqn⟩ _ (fun w7 S' v7 hls7 pr hb7 => ?_)
      rw [eI, eN, eO, em, eu] at pr
      have B7 := B6.trans (hb7.mono B5.size)
      have bx7 := blk hb7 bx6 (bx_lt bx5)
      have hx7 := blk hb7 hx6 (bx_lt hx5)
      have K7 := K6.trans hb7
      have hz7 : w5.heap.size ≤ w7.heap.size := K7.size
      have hN7 := hls7.hN
      have bl5 := bx_lt bx5
      have hl5 := bx_lt hx5
      clear hls ws HS eN eI em eO eu eT hF hL6 bx6 bx5 hx6 hx5 hU5 bx4 hx4 hL4 hU4 bx3 hx3 hL3 hU3 bx2 hx2 hL2 hU2 bx1 hx1 m1 hL1 hU1 bx0 hx0 hL0 hU0 b0 B1 B2 B3 B4 B6 K6 hb7
      have HPR := hide pr
      clear pr
      go_wp2_with fail
      refine zztell13 w7 _ s S' hls7 hz7 HPR.out.ws.inj S'.G rfl _ (fun v w8 uv hown hls8 hbel8 hsz8 => ?_)
      have told := HPR.out.ws.told uv
      generalize ((S'.tellI S'.N).tellO S'.u).setU 0 S'.T uv = S1 at hls8 told
      have B8 := B7.trans (hbel8.mono B5.size)
      have bx8 := blk hbel8 bx7 bl5
      have hx8 := blk hbel8 hx7 hl5
      have hL8 := hL5.below (K7.trans hbel8)
      have hGl : S'.G.length ≤ 16000 := by
        have h1 := rep_len S'.I S'.N
        have h2 := rep_len (fun j => S'.O (S'.T j)) S'.u
        have h3 := HPR.out.hu
        rw [LD.G, List.length_append]; omega
      have cI := HPR.out.cI
      have cL := HPR.out.cL
      have cR := HPR.out.cR
      have cG := HPR.out.cG
      have hctI := ctr_le r I
      have hctL := ctr_le r L
      have ofT := fun (wx : World) (hb : Below w8.heap.size w8 wx) => ofTold HPR.out told (hls8.below hb) hr
      generalize S'.G = G at hown hGl cI cL cR cG
      obtain ⟨av, cv, rfl⟩ := ownsRow_slice hown
      have HW := hide (And.intro cI (And.intro cL (And.intro cR (And.intro cG (And.intro ofT (And.intro told hls8))))))
      have HCT := hide (And.intro hctI hctL)
      have HK := hide (And.intro B7 (And.intro K7 hbel8))
      have hsw : w.heap.size ≤ w8.heap.size := B8.size
      clear cI cL cR cG ofT told hls8 hls7 wf hlen hL hU HPR hL5 bx7 hx7 B7 K7 hbel8 hctI hctL
      go_wp2_with fail
      go_loopg [15, 16] N (fun g wt i wr => ∃ k : Nat, k + g = N ∧ i = .int .i64 k ∧ wt = .int .i64 (ctr r I k : Nat) ∧ Below w8.heap.size w8 wr)
      case atStart => exact ⟨0, by omega, rfl, rfl, Below.refl _ _⟩
      case round =>
        obtain ⟨k, hk, rfl, rfl, hb⟩ := hrel
        by_cases hlt : k < N
        · have bx := blk hb bx8 (bx_lt bx8)
          obtain ⟨c0, c1, c2, c3, c4, c5, c6, c7, c8⟩ := hI.at bx (show k < 4 by omega)
          have hrl := HCT.out.1 k
          have hk' : (k : Int) < 4 := by omega
          have hwl : w8.heap.size ≤ wr.heap.size := hb.size
          have hcnt := HW.out.1 k hlt
          have hown' := ownsRow_of_block hown (fun g hg => hb.block g (hown.lt g hg).2)
          generalize hlo : (I k).hd.loc = lo at c4
          generalize hto : (I k).hd.tol = tt at c5
          have HD : Hid (due (I k) = (lo && !tt)) := by show ((I k).hd.loc && !(I k).hd.tol) = _; rw [hlo, hto]
          have HR := hide hcnt
          have HB := hide hb
          have HO := hide hown'
          clear hlo hto hcnt hb bx hown'
          by_cases e : (I k).res = r
          · have q1 := strT e
            have HE := hide e
            clear e
            go_wp2_with fail
            go_roundg (gk - 1)
            case rel => exact ⟨k + 1, by omega, by go_num, by rw [ctr_same HE.out], HB.out.alloc hwl _⟩
            case measure => omega
          · have q1 := strF e
            have HE := hide e
            clear e
            cases lo
            · go_wp2_with fail
              go_roundg (gk - 1)
              case rel => exact ⟨k + 1, by omega, by go_num, by rw [ctr_not HD.out], HB.out.alloc hwl _⟩
              case measure => omega
            · cases tt
              · go_wp2_with (go_at_call 14; refine countG (HO.out.alloc _) (by omega) _ _ _ ?_; rw [HR.out HE.out HD.out])
                go_roundg (gk - 1)
                case rel => exact ⟨k + 1, by omega, by go_num, by rw [ctr_due HD.out HE.out]; go_num, HB.out.alloc hwl _⟩
                case measure => omega
              · go_wp2_with fail
                go_roundg (gk - 1)
                case rel => exact ⟨k + 1, by omega, by go_num, by rw [ctr_not HD.out], HB.out.alloc hwl _⟩
                case measure => omega
        · obtain rfl : k = N := by omega
          have HB := hide hb
          clear hb hk hlt
          go_wp2_with fail
          go_loopg [15, 18] n (fun g wt i wr => ∃ k' : Nat, k' + g = n ∧ i = .int .i64 k' ∧ wt = .int .i64 ((ctr r I k + ctr r L k' : Nat)) ∧ Below w8.heap.size w8 wr)
          case atStart => exact ⟨0, by omega, rfl, rfl, HB.out⟩
          case round =>
            clear HB
            obtain ⟨j, hj, rfl, rfl, hb⟩ := hrel
            have hrl := HCT.out.1 k
            have hrl2 := HCT.out.2 j
            by_cases hlt : j < n
            · obtain ⟨b, o, rfl, hbs, hc⟩ := (hL8.below hb) j hlt
              obtain ⟨c0, c1, c2, c3, c4, c5, c6, c7, c8⟩ := hc
              have hcnt := HW.out.2.1 j hlt
              have hown' := ownsRow_of_block hown (fun g hg => hb.block g (hown.lt g hg).2)
              have hwl : w8.heap.size ≤ wr.heap.size := hb.size
              generalize hlo : (L j).hd.loc = lo at c4
              generalize hto : (L j).hd.tol = tt at c5
              have HD : Hid (due (L j) = (lo && !tt)) := by show ((L j).hd.loc && !(L j).hd.tol) = _; rw [hlo, hto]
              have HR := hide hcnt
              have HB := hide hb
              have HO := hide hown'
              clear hlo hto hcnt hb hown'
              by_cases e : (L j).res = r
              · have q1 := strT e
                have HE := hide e
                clear e
                go_wp2_with fail
                go_roundg (gk - 1)
                case rel => exact ⟨j + 1, by omega, by go_num, by rw [ctr_same HE.out], HB.out.alloc hwl _⟩
                case measure => omega
              · have q1 := strF e
                have HE := hide e
                clear e
                cases lo
                · go_wp2_with fail
                  go_roundg (gk - 1)
                  case rel => exact ⟨j + 1, by omega, by go_num, by rw [ctr_not HD.out], HB.out.alloc hwl _⟩
                  case measure => omega
                · cases tt
                  · go_wp2_with (go_at_call 14; refine countG (HO.out.alloc _) (by omega) _ _ _ ?_; rw [HR.out HE.out HD.out])
                    go_roundg (gk - 1)
                    case rel => exact ⟨j + 1, by omega, by go_num, by rw [ctr_due HD.out HE.out]; go_num, HB.out.alloc hwl _⟩
                    case measure => omega
                  · go_wp2_with fail
                    go_roundg (gk - 1)
                    case rel => exact ⟨j + 1, by omega, by go_num, by rw [ctr_not HD.out], HB.out.alloc hwl _⟩
                    case measure => omega
            · obtain rfl : j = n := by omega
              have hx := blk hb hx8 (bx_lt hx8)
              have m0 := cell_of_heap hx 0
              have m3 := cell_of_heap hx 3
              have m4 := cell_of_heap hx 4
              have hxl := bx_lt hx
              have HX := hide hx
              clear hx
              have hcG := HW.out.2.2.2.1
              have hwl : w8.heap.size ≤ wr.heap.size := hb.size
              have hown' := ownsRow_of_block hown (fun g hg => hb.block g (hown.lt g hg).2)
              have hc : ctr r I k + ctr r L j ≤ 5000 := by omega
              generalize ctr r I k + ctr r L j = c at hcG hc ⊢
              have HO := hide hown'
              have HB := hide hb
              clear hb hj hlt hown'
              have n24 := neq24
              have g24 := eg24
              cases lo
              · replace hcG : G.length = c := hcG
                subst hcG
                have eT : tld ⟨mode, ver, cdr, false, tt, wri, tok, sqn⟩ = ⟨mode, ver, cdr, false, tt, wri, tok, sqn⟩ := by simp [tld]
                have ET := hide eT
                clear eT
                go_upto_region 43 with (first
                  | (go_at_call 14; refine countG HO.out (by omega) _ _ _ ?_; rw [HW.out.2.2.1 rfl])
                  | (go_at_call 25; refine HW.out.2.2.2.2.1 wr HB.out _ (fun x b o hhd hbl => ?_); rw [ET.out] at hhd; obtain ⟨wd, ewd⟩ : ∃ wd, wr.drewN x = wd := ⟨_, rfl⟩; rw [ewd] at hhd ⊢; have hxd := hx_drewN HX.out x; rw [ewd] at hxd; have hbd := Below_drewN HB.out x; rw [ewd] at hbd; have hwd : wr.heap.size ≤ wd.heap.size := (by rw [← ewd]; exact Nat.le_refl _); have hxl2 := bx_lt hxd; have k0 := cell_of_heap hxd 0; have k1 := cell_of_heap hxd 1; have k2 := cell_of_heap hxd 2; have k3 := cell_of_heap hxd 3; have k4 := cell_of_heap hxd 4; have k5 := cell_of_heap hxd 5; have k6 := cell_of_heap hxd 6; have k7 := cell_of_heap hxd 7; have HH := hide (And.intro hhd (And.intro hbd (Nat.lt_of_lt_of_le hbl hwd))); clear hhd hbl hxd hbd ewd m0 m3 m4))
                go_region_with (go_at_call 21; refine zzread21 ⟨mode, ver, cdr, false, tt, wri, tok, sqn⟩ b o _ (HH.out.1.below (((Below.refl _ _).alloc (Nat.le_refl _) _).drew) HH.out.2.2) _ (fun w9 hb9 => ?_); obtain ⟨hc9, hf9, _⟩ := bcellH (wd.alloc _) hb9 rfl; have HB9 := hide (boxBd hb9); clear hb9)
                all_goals
                  have HL9 := hide (HW.out.2.2.2.2.2.2.below (HH.out.2.1.trans (HB9.out.mono HH.out.2.1.size)))
                  have hz9 : w5.heap.size ≤ w9.heap.size := Nat.le_trans HL9.out.hbase (Nat.le_of_lt HL9.out.lt)
                  have HG := hide (told_none HW.out.2.2.2.2.2.1)
                  have hj0 : ∀ i j, i < j → j < S1.u → S1.T i ≠ S1.T j := fun i j h1 h2 => by rw [HW.out.2.2.2.2.2.1.eu] at h2; omega
                  go_wp2_with (first
                    | (go_at_call 13; refine zztell13 _ _ s S1 HL9.out hz9 hj0 [] HG.out _ (fun v9 w10 uv9 hown9 hls9 hbel9 hsz9 => ?_); obtain ⟨a9, c9, rfl⟩ := ownsRow_slice hown9; have HB10 := hide hbel9; clear hown9 hls9 hbel9))
                  exact ((B8.trans (HH.out.2.1.mono hsw)).trans (HB9.out.mono (Nat.le_trans hsw HH.out.2.1.size))).trans (HB10.out.mono B5.size)
              · cases tt
                · replace hcG : G.length = c + 1 := hcG
                  have hGi : (G.length : Int) = (c : Int) + 1 := by rw [hcG]; go_num
                  clear hcG
                  have eT : tld ⟨mode, ver, cdr, true, false, wri, tok, sqn⟩ = ⟨mode, ver, cdr, true, true, wri, tok, sqn⟩ := by simp [tld]
                  have ET := hide eT
                  clear eT
                  go_upto_region 43 with (first
                    | (go_at_call 14; refine countG HO.out (by omega) _ _ _ ?_; rw [HW.out.2.2.1 rfl])
                    | (go_at_call 25; refine HW.out.2.2.2.2.1 wr HB.out _ (fun x b o hhd hbl => ?_); rw [ET.out] at hhd; obtain ⟨wd, ewd⟩ : ∃ wd, wr.drewN x = wd := ⟨_, rfl⟩; rw [ewd] at hhd ⊢; have hxd := hx_drewN HX.out x; rw [ewd] at hxd; have hbd := Below_drewN HB.out x; rw [ewd] at hbd; have hwd : wr.heap.size ≤ wd.heap.size := (by rw [← ewd]; exact Nat.le_refl _); have hxl2 := bx_lt hxd; have k0 := cell_of_heap hxd 0; have k1 := cell_of_heap hxd 1; have k2 := cell_of_heap hxd 2; have k3 := cell_of_heap hxd 3; have k4 := cell_of_heap hxd 4; have k5 := cell_of_heap hxd 5; have k6 := cell_of_heap hxd 6; have k7 := cell_of_heap hxd 7; have HH := hide (And.intro hhd (And.intro hbd (Nat.lt_of_lt_of_le hbl hwd))); clear hhd hbl hxd hbd ewd m0 m3 m4))
                  go_region_with (go_at_call 21; refine zzread21 ⟨mode, ver, cdr, true, true, wri, tok, sqn⟩ b o _ (HH.out.1.below (((Below.refl _ _).alloc (Nat.le_refl _) _).drew) HH.out.2.2) _ (fun w9 hb9 => ?_); obtain ⟨hc9, hf9, _⟩ := bcellH (wd.alloc _) hb9 rfl; have HB9 := hide (boxBd hb9); clear hb9)
                  all_goals
                    have HL9 := hide (HW.out.2.2.2.2.2.2.below (HH.out.2.1.trans (HB9.out.mono HH.out.2.1.size)))
                    have hz9 : w5.heap.size ≤ w9.heap.size := Nat.le_trans HL9.out.hbase (Nat.le_of_lt HL9.out.lt)
                    have HG := hide (told_none HW.out.2.2.2.2.2.1)
                    have hj0 : ∀ i j, i < j → j < S1.u → S1.T i ≠ S1.T j := fun i j h1 h2 => by rw [HW.out.2.2.2.2.2.1.eu] at h2; omega
                    go_wp2_with (first
                      | (go_at_call 13; refine zztell13 _ _ s S1 HL9.out hz9 hj0 [] HG.out _ (fun v9 w10 uv9 hown9 hls9 hbel9 hsz9 => ?_); obtain ⟨a9, c9, rfl⟩ := ownsRow_slice hown9; have HB10 := hide hbel9; clear hown9 hls9 hbel9))
                    exact ((B8.trans (HH.out.2.1.mono hsw)).trans (HB9.out.mono (Nat.le_trans hsw HH.out.2.1.size))).trans (HB10.out.mono B5.size)
                · replace hcG : G.length = c := hcG
                  subst hcG
                  have eT : tld ⟨mode, ver, cdr, true, true, wri, tok, sqn⟩ = ⟨mode, ver, cdr, true, true, wri, tok, sqn⟩ := by simp [tld]
                  have ET := hide eT
                  clear eT
                  go_upto_region 43 with (first
                    | (go_at_call 14; refine countG HO.out (by omega) _ _ _ ?_; rw [HW.out.2.2.1 rfl])
                    | (go_at_call 25; refine HW.out.2.2.2.2.1 wr HB.out _ (fun x b o hhd hbl => ?_); rw [ET.out] at hhd; obtain ⟨wd, ewd⟩ : ∃ wd, wr.drewN x = wd := ⟨_, rfl⟩; rw [ewd] at hhd ⊢; have hxd := hx_drewN HX.out x; rw [ewd] at hxd; have hbd := Below_drewN HB.out x; rw [ewd] at hbd; have hwd : wr.heap.size ≤ wd.heap.size := (by rw [← ewd]; exact Nat.le_refl _); have hxl2 := bx_lt hxd; have k0 := cell_of_heap hxd 0; have k1 := cell_of_heap hxd 1; have k2 := cell_of_heap hxd 2; have k3 := cell_of_heap hxd 3; have k4 := cell_of_heap hxd 4; have k5 := cell_of_heap hxd 5; have k6 := cell_of_heap hxd 6; have k7 := cell_of_heap hxd 7; have HH := hide (And.intro hhd (And.intro hbd (Nat.lt_of_lt_of_le hbl hwd))); clear hhd hbl hxd hbd ewd m0 m3 m4))
                  go_region_with (go_at_call 21; refine zzread21 ⟨mode, ver, cdr, true, true, wri, tok, sqn⟩ b o _ (HH.out.1.below (((Below.refl _ _).alloc (Nat.le_refl _) _).drew) HH.out.2.2) _ (fun w9 hb9 => ?_); obtain ⟨hc9, hf9, _⟩ := bcellH (wd.alloc _) hb9 rfl; have HB9 := hide (boxBd hb9); clear hb9)
                  all_goals
                    have HL9 := hide (HW.out.2.2.2.2.2.2.below (HH.out.2.1.trans (HB9.out.mono HH.out.2.1.size)))
                    have hz9 : w5.heap.size ≤ w9.heap.size := Nat.le_trans HL9.out.hbase (Nat.le_of_lt HL9.out.lt)
                    have HG := hide (told_none HW.out.2.2.2.2.2.1)
                    have hj0 : ∀ i j, i < j → j < S1.u → S1.T i ≠ S1.T j := fun i j h1 h2 => by rw [HW.out.2.2.2.2.2.1.eu] at h2; omega
                    go_wp2_with (first
                      | (go_at_call 13; refine zztell13 _ _ s S1 HL9.out hz9 hj0 [] HG.out _ (fun v9 w10 uv9 hown9 hls9 hbel9 hsz9 => ?_); obtain ⟨a9, c9, rfl⟩ := ownsRow_slice hown9; have HB10 := hide hbel9; clear hown9 hls9 hbel9))
                    exact ((B8.trans (HH.out.2.1.mono hsw)).trans (HB9.out.mono (Nat.le_trans hsw HH.out.2.1.size))).trans (HB10.out.mono B5.size)
    · exact B2
  · go_enter Try.func6, Try.ntmps6
    go_wp2_with (first
      | (refine wpList_load_row rfl 27 _ rfl w.heap.size rfl 27 cs (0, 0) _ (by assumption) Try.underlying27 rfl s27.out ?_)
      | (refine wpList_load_row rfl 24 _ rfl (w.heap.size + 1) rfl 24 _ (0, 0) _ (by assumption) Try.underlying24 rfl s24.out ?_)
      | (go_at_call 33; refine bytes33 cs I hI x a L n cap a2 u cap2 r ⟨mode, ver, cdr, lo, tt, wri, tok, sqn⟩ _ hL0 _ (fun q1 w1 hb1 => ?_); have B1 := b0.trans (hb1.mono b0.size); have bx1 := blk hb1 bx0 (bx_lt bx0); have hx1 := blk hb1 hx0 (bx_lt hx0); have m1 := cell_of_heap hx1 0; have hL1 := hL.below B1; have hU1 := hU.below B1; clear hb1; cases q1)
      | (go_at_call 8; refine tooBig8 cs I hI a L n cap a2 u cap2 _ _ _ hL1 _ (fun q2 w2 h2 hb2 => ?_); have B2 := B1.trans (hb2.mono B1.size); have bx2 := blk hb2 bx1 (bx_lt bx1); have hL2 := hL.below B2; have hU2 := hU.below B2; clear hb2; obtain ⟨rfl, hn, hu⟩ | rfl : (q2 = false ∧ n ≤ 4096 ∧ u ≤ 4096) ∨ q2 = true := (by cases q2 with | false => exact .inl ⟨rfl, h2 rfl⟩ | true => exact .inr rfl); all_goals clear h2)
      | (go_at_call 9; (refine wellFormed9 cs I hI x a L n cap hn a2 u cap2 hu U _ hL2 hU2 _ (fun q3 w3 h3 hb3 => ?_)); have B3 := B2.trans (hb3.mono B2.size); clear hb3; obtain rfl : q3 = false := (by cases q3 with | false => rfl | true => exact (hx ⟨(h3 rfl).lo, (h3 rfl).hi⟩).elim); clear h3))
    · exact B1
    · exact B3
    · exact B2

end Go.Proofs.Qxb6605402a
