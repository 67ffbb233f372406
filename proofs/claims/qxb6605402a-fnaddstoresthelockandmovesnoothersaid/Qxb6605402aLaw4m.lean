import Derived.Test.Qxb6605402aLaw4n
namespace Go.Proofs.Qxb6605402a
open Go.RowKit Go.Maps
set_option linter.unusedVariables false
set_option linter.unusedSimpArgs false

set_option maxRecDepth 1000000 in
set_option maxHeartbeats 10000000 in
theorem law4m {w : World} {R : Ending → World → Prop} (hR : ∀ w', Below w.heap.size w w' → R (.returned (.bool true)) w') {S : LD} {s b6 b0 bw : Nat} {cs : Array Value} {w5 wr : World} {a4 a5 : Option Addr} {cap4 cap5 : Nat} {r : ByteArray} {mode : ByteArray} {ver : Int} {cdr lo tt wri : Bool} {tok sqn : Int}
    (hI : IpAt cs S.I) (hlS : ∀ i, i < S.m → (S.O i).res.size ≤ maxLen) (hTS : ∀ j, j < S.u → S.T j < S.m) (HFS : Hid (∀ i, i < S.m → (S.F i = true ↔ ∃ j, j < S.u ∧ S.T j = i))) (hn : S.m ≤ 4096) (hu : S.u ≤ 4096) (hr : r.size ≤ maxLen)
    (HDS : Hid (DS S)) (hNo : Hid ((∀ i, i < S.N → (S.I i).res ≠ r) ∧ (∀ i, i < S.m → (S.O i).res ≠ r))) (B5 : Below w.heap.size w w5) (K5 : Hid (Below w5.heap.size w5 wr))
    (HX5 : Hid (w5.heap[bw]? = some (.cells cs 27) ∧ w5.heap[bw + 1]? = some (.cells #[.string mode, .int .u64 ver, .bool cdr, .bool lo, .bool tt, .bool wri, .int .u64 tok, .int .u64 sqn] 24))) (hLb : OtAt w5 a4 S.m S.O) (hUb : UtAt w5 a5 S.u (fun j => (S.T j : Int)))
    (HLS : Hid (LS wr w5.heap.size s S)) (HP : Hid (PtrRow wr b6 52 4 (fun j => ⟨s, j * 9 + 1, none⟩) S.N ∧ PtrRow wr b0 45 S.m (fun j => ⟨S.B j, 0, none⟩) S.m)) (ne1 : b6 ≠ s) (ne2 : b0 ≠ s) (HMV : Hid (∀ mb, S.mv = some mb → b6 ≠ mb ∧ b0 ≠ mb))
    {K : Act → World → Prop} (hK : ∀ a w, Code.wp Try.prog ((Try.f4.body.bind (fromReg 29)).getD Code.skip) (bodyPost Try.prog Try.f4 R) a w → K a w)
    {y0 y5 y7 y8 y9 y10 y12 y13 y14 y17 y18 y20 y21 y22 y23 y24 y25 y26 y27 y28 y29 y30 y31 y32 y33 y34 y35 y36 y37 y38 y39 y40 y41 y42 y43 y44 y45 y46 y47 y48 y49 y50 y51 y52 y53 y54 y55 y56 y57 y58 y59 y60 y61 y62 y63 y64 y65 y66 y67 y68 y69 y70 y71 y72 y73 y74 y75 y76 y77 y78 y79 y80 y81 y82 y83 y84 y85 y86 y87 y88 y89 y90 y91 y92 y93 y94 y95 y96 y97 y98 y99 y100 y101 y102 y103 y104 y105 y106 y107 y108 y109 y110 y111 y112 y113 y114 y115 y116 y117 y118 y119 y120 y121 y122 y123 y124 y125 y126 y127 y128 y129 y130 y131 y132 y133 y134 y135 y136 y137 y138 y139 y140 y141 y142 y143 y144 y145 y146 y147 y148 y149 y150 y151 y152 y153 y154 y155 y156 y157 y158 y159 y160 y161 y162 y163 y164 y165 y166 y167 y168 y169 y170 y171 y172 y173 y174 y175 y176 y177 y178 y179 y180 y181 y182 y183 y184 y185 y186 y187 y188 y189 y190 y191 y192 y193 y194 y195 y196 y197 y198 y199 y200 y201 y202 y203 y204 y205 y206 y207 y208 y209 y210 y211 y212 y213 y214 y215 y216 y217 y218 y219 y220 y221 y222 y223 y224 y225 y226 y227 y228 y229 y230 y231 y232 y233 y234 y235 y236 y237 y238 y239 y240 y241 y242 y243 y244 y245 y246 y247 y248 y249 y250 y251 y252 y253 y254 y255 y256 y257 y258 y259 y260 y261 y262 y263 y264 y265 y266 y267 y268 y269 y270 y271 y272 : Value} : K ⟨#[y0, .int .i64 (S.N : Int), .slice a4 S.m cap4, .slice a5 S.u cap5, .string r, y5, .pointer (some ⟨bw, 0, none⟩), y7, y8, y9, y10, .pointer (some ⟨bw + 1, 0, none⟩), y12, y13, y14, .pointer (some ⟨s, 0, none⟩), .pointer (some ⟨b6, 0, none⟩), y17, y18, .slice (some ⟨b0, 0, none⟩) S.m S.m, y20, y21, y22, y23, y24, y25, y26, y27, y28, y29, y30, y31, y32, y33, y34, y35, y36, y37, y38, y39, y40, y41, y42, y43, y44, y45, y46, y47, y48, y49, y50, y51, y52, y53, y54, y55, y56, y57, y58, y59, y60, y61, y62, y63, y64, y65, y66, y67, y68, y69, y70, y71, y72, y73, y74, y75, y76, y77, y78, y79, y80, y81, y82, y83, y84, y85, y86, y87, y88, y89, y90, y91, y92, y93, y94, y95, y96, y97, y98, y99, y100, y101, y102, y103, y104, y105, y106, y107, y108, y109, y110, y111, y112, y113, y114, y115, y116, y117, y118, y119, y120, y121, y122, y123, y124, y125, y126, y127, y128, y129, y130, y131, y132, y133, y134, y135, y136, y137, y138, y139, y140, y141, y142, y143, y144, y145, y146, y147, y148, y149, y150, y151, y152, y153, y154, y155, y156, y157, y158, y159, y160, y161, y162, y163, y164, y165, y166, y167, y168, y169, y170, y171, y172, y173, y174, y175, y176, y177, y178, y179, y180, y181, y182, y183, y184, y185, y186, y187, y188, y189, y190, y191, y192, y193, y194, y195, y196, y197, y198, y199, y200, y201, y202, y203, y204, y205, y206, y207, y208, y209, y210, y211, y212, y213, y214, y215, y216, y217, y218, y219, y220, y221, y222, y223, y224, y225, y226, y227, y228, y229, y230, y231, y232, y233, y234, y235, y236, y237, y238, y239, y240, y241, y242, y243, y244, y245, y246, y247, y248, y249, y250, y251, y252, y253, y254, y255, y256, y257, y258, y259, y260, y261, y262, y263, y264, y265, y266, y267, y268, y269, y270, y271, y272], []⟩ wr := by
  refine hK _ _ ?_
  clear hK
  conv => arg 2; whnf
  have hx := blk K5.out HX5.out.2 (bx_lt HX5.out.2)
  have k0 := cell_of_heap hx 0
  have k1 := cell_of_heap hx 1
  have k2 := cell_of_heap hx 2
  have k3 := cell_of_heap hx 3
  have k4 := cell_of_heap hx 4
  have k5 := cell_of_heap hx 5
  have k6 := cell_of_heap hx 6
  have k7 := cell_of_heap hx 7
  have hz : w5.heap.size ≤ wr.heap.size := K5.out.size
  have hr6 : b6 < wr.heap.size := HP.out.1.row.lt
  have hr0 : b0 < wr.heap.size := HP.out.2.row.lt
  clear hx
  go_upto_region 30 with (go_at_call 26; refine zzadd26 wr _ s S HLS.out hz (by omega) HDS.out r hr (fun i hi => hNo.out.1 i hi) (fun i hi => hNo.out.2 i hi) ⟨mode, ver, cdr, lo, tt, wri, tok, sqn⟩ _ (fun w7 S' pb po hls7 ar hb7 hfr => ?_); have HA := hide (And.intro hls7 (And.intro ar (And.intro hb7 hfr))); clear hls7 ar hb7 hfr)
  obtain ⟨hls7, ar, hb7, hfr⟩ := HA.out
  have P1 : PtrRow w7 b6 52 4 (fun j => ⟨s, j * 9 + 1, none⟩) S.N := HP.out.1.of_block (hfr _ hr6 ne1 (fun e => (HMV.out _ e).1 rfl))
  have P2 : PtrRow w7 b0 45 S.m (fun j => ⟨S.B j, 0, none⟩) S.m := HP.out.2.of_block (hfr _ hr0 ne2 (fun e => (HMV.out _ e).2 rfl))
  have K7 := K5.out.trans hb7
  have B7 := B5.trans (K7.mono B5.size)
  have bx7 := blk K7 HX5.out.1 (bx_lt HX5.out.1)
  have hx7 := blk K7 HX5.out.2 (bx_lt HX5.out.2)
  have hx7' := hx7
  have hL7 : OtAt w7 a4 S.m S.O := hLb.below K7
  have hU7 : UtAt w7 a5 S.u (fun j => (S.T j : Int)) := hUb.below K7
  have hpb : pb < w7.heap.size := block_lt_of_cell (ar.hd hls7).c0
  have e0 := cell_of_heap hx7 0
  have e1 := cell_of_heap hx7 1
  have e2 := cell_of_heap hx7 2
  have e3 := cell_of_heap hx7 3
  have e4 := cell_of_heap hx7 4
  have e5 := cell_of_heap hx7 5
  have e6 := cell_of_heap hx7 6
  have e7 := cell_of_heap hx7 7
  have hxl := bx_lt hx7
  have n45 := nep45
  have n24 := neq24
  have g24 := eg24
  have n26 := neq26
  have g26 := eg26
  have hS4 : S.N ≤ 4 := HLS.out.hN
  have HX := hide (And.intro bx7 hx7)
  have HQ := hide (And.intro P1 (And.intro P2 (And.intro hL7 hU7)))
  have H7 := hide (And.intro hls7 ar)
  have slt7 := hls7.lt
  clear hls7 ar hb7 hfr P1 P2 K7 bx7 hx7 hx7' hL7 hU7 hLb hUb HA HLS HMV k0 k1 k2 k3 k4 k5 k6 k7 hz K5 HP HX5
  go_upto_region 34 with (go_at_call 25; refine H7.out.2.of H7.out.1 hr _ (fun n1 => ?_))
  go_cut [125] (fun v wc => v = .bool false ∧ Below w7.heap.size w7 wc)
  case first =>
    go_region_with (go_at_call 21; refine zzread21 ⟨mode, ver, cdr, lo, tt, wri, tok, sqn⟩ pb po _ ((H7.out.2.hd H7.out.1).below ((Below_drewN (Below.refl _ _) n1).drew) hpb) _ (fun w9 hb9 => ?_); obtain ⟨hc9, hf9, _⟩ := bcellH w7 hb9 rfl; have HB9 := hide ((Below_drewN (Below.refl _ w7) n1).drew.trans hb9); clear hb9)
    all_goals
      go_wp2
      go_meet
      case rel => exact ⟨rfl, HB9.out⟩
  case rest =>
    obtain ⟨rfl, hbc⟩ := hcut
    rename (∀ (a : Act) (w : World), Code.wp Try.prog ((Try.f4.body.bind (fromReg 36)).getD Code.skip) (bodyPost Try.prog Try.f4 R) a w → _) => hk36
    replace hk36 := hide hk36
    have HBC := hide hbc
    clear hbc
    go_wp2_with fail
    exact law4n hR hI hlS hTS HFS hn hu hr hS4 B7 HX HQ H7 HBC.out hk36.out

end Go.Proofs.Qxb6605402a
