import Derived.Test.Qxb6605402aLaw4m
namespace Go.Proofs.Qxb6605402a
open Go.RowKit Go.Maps
set_option linter.unusedVariables false
set_option linter.unusedSimpArgs false

theorem Try.info45 : (Try.prog.info? 45).map (fun i => (i.zero.map (·.cells.size), i.size, i.bytes)) = some (some 1, 1, 8) := by kernel_rfl

set_option maxRecDepth 100000 in
set_option maxHeartbeats 10000000 in
theorem law4 (w : World) (cs : Array Value) (hcs : cs.size = 36) (I : Nat → Lk) (hI : IpAt cs I) (x : Int) (a : Option Addr) (L : Nat → Lk) (n cap : Nat) (hL : OtAt w a n L) (hlen : ∀ i, i < n → (L i).res.size ≤ maxLen) (a2 : Option Addr) (u cap2 : Nat) (U : Nat → Int) (hU : UtAt w a2 u U) (r : ByteArray) (hr : r.size ≤ maxLen)
    (mode : ByteArray) (ver : Int) (cdr lo tt wri : Bool) (tok sqn : Int) (R : Ending → World → Prop) (hR : ∀ w', Below w.heap.size w w' → R (.returned (.bool true)) w') :
    Calls Try.prog 4 #[.agg cs, .int .i64 x, .slice a n cap, .slice a2 u cap2, .string r, .agg #[.string mode, .int .u64 ver, .bool cdr, .bool lo, .bool tt, .bool wri, .int .u64 tok, .int .u64 sqn]] w R := by
  have b0 : Below w.heap.size w ((w.alloc (.cells cs 27)).alloc (.cells #[.string mode, .int .u64 ver, .bool cdr, .bool lo, .bool tt, .bool wri, .int .u64 tok, .int .u64 sqn] 24)) := two_below w _ _
  have hL0 := hL.below b0
  have hU0 := hU.below b0
  have s27 : Hid ((Try.prog.info? 27).map (·.size) = some cs.size) := by rw [hcs]; exact Try.size27
  have s24 : Hid ((Try.prog.info? 24).map (·.size) = some (#[Value.string mode, .int .u64 ver, .bool cdr, .bool lo, .bool tt, .bool wri, .int .u64 tok, .int .u64 sqn]).size) := Try.size24
  have bx0 : ((w.alloc (.cells cs 27)).alloc (.cells #[.string mode, .int .u64 ver, .bool cdr, .bool lo, .bool tt, .bool wri, .int .u64 tok, .int .u64 sqn] 24)).heap[w.heap.size]? = some (.cells cs 27) := heap_old _ (heap_new _ _)
  have hx0 : ((w.alloc (.cells cs 27)).alloc (.cells #[.string mode, .int .u64 ver, .bool cdr, .bool lo, .bool tt, .bool wri, .int .u64 tok, .int .u64 sqn] 24)).heap[w.heap.size + 1]? = some (.cells #[.string mode, .int .u64 ver, .bool cdr, .bool lo, .bool tt, .bool wri, .int .u64 tok, .int .u64 sqn] 24) := heap_new2 _ _ _
  clear hcs
  by_cases hx : 0 ≤ x ∧ x ≤ 4
  · obtain ⟨N, rfl⟩ : ∃ N : Nat, x = N := ⟨x.toNat, by omega⟩
    have hN : N ≤ 4 := by omega
    clear hx
    go_enter Try.func4, Try.ntmps4
    go_upto_region 13 with (first
      | (refine wpList_load_row rfl 27 _ rfl w.heap.size rfl 27 cs (0, 0) _ (by assumption) Try.underlying27 rfl s27.out ?_)
      | (refine wpList_load_row rfl 24 _ rfl (w.heap.size + 1) rfl 24 _ (0, 0) _ (by assumption) Try.underlying24 rfl s24.out ?_)
      | (go_at_call 23; refine bytes23 cs I hI N a L n cap a2 u cap2 r ⟨mode, ver, cdr, lo, tt, wri, tok, sqn⟩ _ hL0 _ (fun q1 w1 hb1 => ?_); have B1 := b0.trans (hb1.mono b0.size); have bx1 := blk hb1 bx0 (bx_lt bx0); have hx1 := blk hb1 hx0 (bx_lt hx0); have m1 := cell_of_heap hx1 0; have hL1 := hL.below B1; have hU1 := hU.below B1; clear hb1; cases q1)
      | (go_at_call 8; refine tooBig8 cs I hI a L n cap a2 u cap2 _ _ _ hL1 _ (fun q2 w2 h2 hb2 => ?_); have B2 := B1.trans (hb2.mono B1.size); have bx2 := blk hb2 bx1 (bx_lt bx1); have hx2 := blk hb2 hx1 (bx_lt hx1); have hL2 := hL.below B2; have hU2 := hU.below B2; clear hb2; obtain ⟨rfl, hn, hu⟩ | rfl : (q2 = false ∧ n ≤ 4096 ∧ u ≤ 4096) ∨ q2 = true := (by cases q2 with | false => exact .inl ⟨rfl, h2 rfl⟩ | true => exact .inr rfl); all_goals clear h2)
      | (go_at_call 9; (refine wellFormed9 cs I hI N a L n cap hn a2 u cap2 hu U _ hL2 hU2 _ (fun q3 w3 h3 hb3 => ?_)); have B3 := B2.trans (hb3.mono B2.size); have bx3 := blk hb3 bx2 (bx_lt bx2); have hx3 := blk hb3 hx2 (bx_lt hx2); have hL3 := hL.below B3; have hU3 := hU.below B3; clear hb3; obtain rfl | ⟨rfl, wf⟩ : q3 = false ∨ (q3 = true ∧ WF I N L n U u) := (by cases q3 with | false => exact .inl rfl | true => exact .inr ⟨rfl, h3 rfl⟩); all_goals clear h3)
      | (go_at_call 24; refine find24 cs I hI N hN a L n cap hn r _ hL3 _ (fun p q w3f hp hq hb3f => ?_); have B3f := B3.trans (hb3f.mono B3.size); have bx3f := blk hb3f bx3 (bx_lt bx3); have hx3f := blk hb3f hx3 (bx_lt hx3); have hL3f := hL.below B3f; have hU3f := hU.below B3f; clear hb3f; obtain ⟨rfl, rfl, hNo⟩ | ⟨i1, rfl⟩ | ⟨rfl, i1, rfl⟩ : (p = -1 ∧ q = -1 ∧ Hid ((∀ i, i < N → (I i).res ≠ r) ∧ (∀ i, i < n → (L i).res ≠ r))) ∨ (∃ i1 : Nat, p = i1) ∨ (p = -1 ∧ ∃ i1 : Nat, q = i1) := (by rcases hp with ⟨h1, h2⟩ | ⟨i, _, h1, _⟩; (rcases hq with ⟨h3, h4⟩ | ⟨i, _, h3, _⟩); exact .inl ⟨h1, h3, h2, h4⟩; exact .inr (.inr ⟨h1, i, h3⟩); exact .inr (.inl ⟨i, h1⟩)); all_goals clear hp hq)
      | (go_at_call 10; refine copyLocks10 a L n cap hn _ hL3f _ (fun a4 cap4 w4 hL4 hb4 => ?_); have B4 := B3f.trans (hb4.mono B3f.size); have bx4 := blk hb4 bx3f (bx_lt bx3f); have hx4 := blk hb4 hx3f (bx_lt hx3f); have hU4 := hU.below B4; clear hb4)
      | (go_at_call 11; refine copyInts11 a2 U u cap2 hu _ hU4 _ (fun a5 cap5 w5 hU5 hb5 => ?_); have B5 := B4.trans (hb5.mono B4.size); have bx5 := blk hb5 bx4 (bx_lt bx4); have hx5 := blk hb5 hx4 (bx_lt hx4); have hL5 := hL4.below hb5; clear hb5)
      | (go_at_call 12; refine make12 _ cs I hI N hN a4 L n cap4 hn hL5 a5 u cap5 hu (fun i => (U i).toNat) (hU5.congr (fun i hi => Int.toNat_of_nonneg (wf.rng i hi).1)) (fun k hk => by have := wf.rng k hk; omega) (fun i j h1 h2 e => wf.uu i j h1 h2 (by have := wf.rng i (by omega); have := wf.rng j h2; omega)) wf.oo hlen _ (fun s S w6 hls eN eI em eO eu eT hF hb6 => ?_); have HS := hide (And.intro eN (And.intro eI (And.intro em (And.intro eO (And.intro eu (And.intro eT hF)))))); have B6 := B5.trans (hb6.mono B5.size); have bx6 := blk hb6 bx5 (bx_lt bx5); have hx6 := blk hb6 hx5 (bx_lt hx5); have hL6 := hL5.below hb6; have hU6 := hU5.below hb6; have hz6 := hb6.size; have K6 := hb6; clear hb6 eN eI em eO eu eT hF))
    · exact B1
    · exact B3
    · -- behind zzMake
      obtain ⟨eN, eI, em, eO, eu, eT, hF⟩ := HS.out
      have ws := WS.of_make wf eN eI em eO eu eT hF
      have ds : DS S := ⟨fun i j h1 h2 => ws.1.ii i j h1 (by omega), fun i j h1 h2 => ws.1.io i j (by omega) h2⟩
      have hU6' : UtAt w6 a5 u (fun j => (S.T j : Int)) := hU6.congr (fun i hi => by rw [eT]; exact Int.toNat_of_nonneg (wf.rng i hi).1)
      have hU5' : UtAt w5 a5 u (fun j => (S.T j : Int)) := hU5.congr (fun i hi => by rw [eT]; exact Int.toNat_of_nonneg (wf.rng i hi).1)
      have hlS : ∀ i, i < S.m → (S.O i).res.size ≤ maxLen := fun i hi => by rw [eO]; exact hlen i (by omega)
      have hFS := ws.2
      have hTS : ∀ j, j < S.u → S.T j < S.m := fun j hj => by have := ws.1.rng j hj; omega
      clear HS hF wf hlen hL hU hU6 eT ws
      subst eN eI em eO eu
      have bl5 := bx_lt bx5
      have hl5 := bx_lt hx5
      have HX5 := hide (And.intro bx5 hx5)
      have HH := hide hls
      have HDS := hide ds
      have HFS := hide hFS
      have slt := hls.lt
      have hLb := hL5
      have hUb : UtAt w5 a5 S.u (fun j => (S.T j : Int)) := hU5'
      clear bx5 hx5 hL5 hU5 bx4 hx4 hL4 hU4 bx3f hx3f hL3f hU3f bx3 hx3 hL3 hU3 bx2 hx2 hL2 hU2 bx1 hx1 m1 hL1 hU1 bx0 hx0 hL0 hU0 b0 B1 B2 B3 B3f B4 hls ds hFS
      go_wp2_with fail
      go_loopg [17, 18] S.N (fun g i _ wr => ∃ k : Nat, k + g = S.N ∧ i = .int .i64 k ∧ Below w6.heap.size w6 wr ∧ PtrRow wr w6.heap.size 52 4 (fun j => ⟨s, j * 9 + 1, none⟩) k)
      case atStart => exact ⟨0, by omega, rfl, (Below.refl _ _).alloc (Nat.le_refl _) _, ⟨⟨_, heap_new _ _, rfl⟩, fun j hj => by omega⟩⟩
      case round =>
        obtain ⟨k, hk, rfl, hb, hp⟩ := hrel
        by_cases hlt : k < S.N
        · have bx := blk hb bx6 (bx_lt bx6)
          have c0 := (hI.at bx (show k < 4 by omega)).c0
          have fz := hp.row.fz
          obtain ⟨x0, d0⟩ := hp.row.ex (o := k) (by omega)
          have plt := hp.row.lt
          have hk' : (k : Int) < 4 := by omega
          have HB := hide (And.intro hb hp)
          have HLS := hide (HH.out.below hb)
          clear hb hp bx
          go_wp2_with (go_at_call 25; refine of25I HLS.out HDS.out hlt rfl _ (fun n1 => ?_))
          go_roundg (gk - 1)
          case rel => exact ⟨k + 1, by omega, by go_num, (Below_drewN HB.out.1 _).setCell (p := ⟨w6.heap.size, k, none⟩) (Nat.le_refl _) _, HB.out.2.step (by omega) rfl⟩
          case measure => omega
        · obtain rfl : k = S.N := by omega
          obtain ⟨w0, rfl⟩ : ∃ w0, w0 = wr := ⟨wr, rfl⟩
          obtain ⟨ms, hms, hmk⟩ := make_any Try.underlying53 Try.info45 S.m (by omega) (by omega)
          have h60 : w6.heap.size < w0.heap.size := hp.row.lt
          have HB := hide (And.intro hb hp)
          clear hb hp hk hlt
          go_wp2_with fail
          rename (∀ (a : Act) (w : World), Code.wp Try.prog ((Try.f4.body.bind (fromReg 29)).getD Code.skip) (bodyPost Try.prog Try.f4 R) a w → _) => hk29
          replace hk29 := hide hk29
          go_loopg [20, 21] S.m (fun g i _ wr => ∃ k : Nat, k + g = S.m ∧ i = .int .i64 k ∧ Below w6.heap.size w6 wr ∧ PtrRow wr w6.heap.size 52 4 (fun j => ⟨s, j * 9 + 1, none⟩) S.N ∧ PtrRow wr w0.heap.size 45 S.m (fun j => ⟨S.B j, 0, none⟩) k)
          case atStart => exact ⟨0, by omega, rfl, HB.out.1.alloc (by omega) _, HB.out.2.of_block (Below.heap_alloc _ _ _ h60), ⟨⟨_, heap_new _ _, by rw [hms, Nat.mul_one]⟩, fun j hj => by omega⟩⟩
          case round =>
            clear HB hmk
            obtain ⟨k, hk, rfl, hb, hp, hp2⟩ := hrel
            by_cases hlt : k < S.m
            · obtain ⟨b, o, rfl, hbs, hc⟩ := (hL6.below hb) k hlt
              have c0 := hc.c0
              have fz := hp2.row.fz
              obtain ⟨x0, d0⟩ := hp2.row.ex (o := k) (by omega)
              have plt := hp2.row.lt
              have HB := hide (And.intro hb (And.intro hp hp2))
              have HLS := hide (HH.out.below hb)
              clear hb hp hp2 hc
              go_wp2_with (go_at_call 25; refine of25O HLS.out HDS.out hlt rfl (hlS k hlt) _ (fun n1 => ?_))
              go_roundg (gk - 1)
              case rel => exact ⟨k + 1, by omega, by go_num, (Below_drewN HB.out.1 _).setCell (p := ⟨w0.heap.size, k, none⟩) (Nat.le_of_lt h60) _, HB.out.2.1.of_block (setCell_other (b := w0.heap.size) _ _ (by show w6.heap.size ≠ w0.heap.size; omega)), HB.out.2.2.step (by omega) rfl⟩
              case measure => omega
            · obtain rfl : k = S.m := by omega
              have HLS := hide (HH.out.below hb)
              have h6s : w6.heap.size ≠ s := by omega
              have h0s : w0.heap.size ≠ s := by omega
              have HMV : Hid (∀ mb, S.mv = some mb → w6.heap.size ≠ mb ∧ w0.heap.size ≠ mb) := fun mb e => by have := HH.out.ltm e; omega
              have HB := hide (And.intro hb (And.intro hp hp2))
              clear hb hp hp2 hk hlt
              go_wp2_with fail
              exact law4m hR hI hlS hTS HFS hn hu hr HDS hNo B5 (hide (K6.trans (HB.out.1.mono hz6))) HX5 hLb hUb HLS (hide HB.out.2) h6s h0s HMV hk29.out
    · exact B3f
    · exact B3f
    · exact B2
  · go_enter Try.func4, Try.ntmps4
    go_wp2_with (first
      | (refine wpList_load_row rfl 27 _ rfl w.heap.size rfl 27 cs (0, 0) _ (by assumption) Try.underlying27 rfl s27.out ?_)
      | (refine wpList_load_row rfl 24 _ rfl (w.heap.size + 1) rfl 24 _ (0, 0) _ (by assumption) Try.underlying24 rfl s24.out ?_)
      | (go_at_call 23; refine bytes23 cs I hI x a L n cap a2 u cap2 r ⟨mode, ver, cdr, lo, tt, wri, tok, sqn⟩ _ hL0 _ (fun q1 w1 hb1 => ?_); have B1 := b0.trans (hb1.mono b0.size); have bx1 := blk hb1 bx0 (bx_lt bx0); have hx1 := blk hb1 hx0 (bx_lt hx0); have m1 := cell_of_heap hx1 0; have hL1 := hL.below B1; have hU1 := hU.below B1; clear hb1; cases q1)
      | (go_at_call 8; refine tooBig8 cs I hI a L n cap a2 u cap2 _ _ _ hL1 _ (fun q2 w2 h2 hb2 => ?_); have B2 := B1.trans (hb2.mono B1.size); have bx2 := blk hb2 bx1 (bx_lt bx1); have hL2 := hL.below B2; have hU2 := hU.below B2; clear hb2; obtain ⟨rfl, hn, hu⟩ | rfl : (q2 = false ∧ n ≤ 4096 ∧ u ≤ 4096) ∨ q2 = true := (by cases q2 with | false => exact .inl ⟨rfl, h2 rfl⟩ | true => exact .inr rfl); all_goals clear h2)
      | (go_at_call 9; (refine wellFormed9 cs I hI x a L n cap hn a2 u cap2 hu U _ hL2 hU2 _ (fun q3 w3 h3 hb3 => ?_)); have B3 := B2.trans (hb3.mono B2.size); clear hb3; obtain rfl : q3 = false := (by cases q3 with | false => rfl | true => exact (hx ⟨(h3 rfl).lo, (h3 rfl).hi⟩).elim); clear h3))
    · exact B1
    · exact B3
    · exact B2

end Go.Proofs.Qxb6605402a
