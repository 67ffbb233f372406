import Derived.Test.Qxb6605402aLaw4c
namespace Go.Proofs.Qxb6605402a
open Go.RowKit Go.Maps
set_option linter.unusedVariables false
set_option linter.unusedSimpArgs false

set_option maxRecDepth 1000000 in
set_option maxHeartbeats 10000000 in
theorem law4b {w : World} {R : Ending → World → Prop} (hR : ∀ w', Below w.heap.size w w' → R (.returned (.bool true)) w') {S S' : LD} {s bs b6 b0 bw : Nat} {cs : Array Value} {w7 wc : World} {a4 a5 : Option Addr} {cap4 cap5 : Nat} {r : ByteArray} {hd : Hold} {pb po : Nat}
    (hI : IpAt cs S.I) (hlS : ∀ i, i < S.m → (S.O i).res.size ≤ maxLen) (hTS : ∀ j, j < S.u → S.T j < S.m) (HFS : Hid (∀ i, i < S.m → (S.F i = true ↔ ∃ j, j < S.u ∧ S.T j = i))) (hn : S.m ≤ 4096) (hu : S.u ≤ 4096) (HS4 : Hid (S.N ≤ 4)) (B7 : Below w.heap.size w w7)
    (HX : Hid (w7.heap[bw]? = some (.cells cs 27)))
    (HQ : Hid (PtrRow w7 b6 52 4 (fun j => ⟨s, j * 9 + 1, none⟩) S.N ∧ PtrRow w7 b0 45 S.m (fun j => ⟨S.B j, 0, none⟩) S.m ∧ OtAt w7 a4 S.m S.O ∧ UtAt w7 a5 S.u (fun j => (S.T j : Int))))
    (H7 : Hid (LS w7 bs s S' ∧ AR S S' s r hd pb po)) (hNN : S.N ≤ S'.N) (hMM : S.m ≤ S'.m) (hcut : Below w7.heap.size w7 wc)
    {K : Act → World → Prop} (hK : ∀ a w, Code.wp Try.prog ((Try.f4.body.bind (fromReg 49)).getD Code.skip) (bodyPost Try.prog Try.f4 R) a w → K a w)
    {y0 y4 y5 y7 y8 y9 y10 y11 y12 y13 y14 y17 y18 y20 y21 y22 y23 y24 y25 y26 y27 y28 y29 y30 y31 y32 y33 y34 y35 y36 y37 y38 y39 y40 y41 y42 y43 y44 y45 y46 y47 y48 y49 y50 y51 y52 y53 y54 y55 y56 y57 y58 y59 y60 y61 y62 y63 y64 y65 y66 y67 y68 y69 y70 y71 y72 y73 y74 y75 y76 y77 y78 y79 y80 y81 y82 y83 y84 y85 y86 y87 y88 y89 y90 y91 y92 y93 y94 y95 y96 y97 y98 y99 y100 y101 y102 y103 y104 y105 y106 y107 y108 y109 y110 y111 y112 y113 y114 y115 y116 y117 y118 y119 y120 y121 y122 y123 y124 y125 y126 y127 y128 y129 y130 y131 y132 y133 y134 y135 y136 y137 y138 y139 y140 y141 y142 y143 y144 y145 y146 y147 y148 y149 y150 y151 y152 y153 y154 y155 y156 y157 y158 y159 y160 y161 y162 y163 y164 y165 y166 y167 y168 y169 y170 y171 y172 y173 y174 y175 y176 y177 y178 y179 y180 y181 y182 y183 y184 y185 y186 y187 y188 y189 y190 y191 y192 y193 y194 y195 y196 y197 y198 y199 y200 y201 y202 y203 y204 y205 y206 y207 y208 y209 y210 y211 y212 y213 y214 y215 y216 y217 y218 y219 y220 y221 y222 y223 y224 y225 y226 y227 y228 y229 y230 y231 y232 y233 y234 y235 y236 y237 y238 y239 y240 y241 y242 y243 y244 y245 y246 y247 y248 y249 y250 y251 y252 y253 y254 y255 y256 y257 y258 y259 y260 y261 y262 y263 y264 y265 y266 y267 y268 y269 y270 y271 y272 : Value} : K ⟨#[y0, .int .i64 (S.N : Int), .slice a4 S.m cap4, .slice a5 S.u cap5, y4, y5, .pointer (some ⟨bw, 0, none⟩), y7, y8, y9, y10, y11, y12, y13, y14, .pointer (some ⟨s, 0, none⟩), .pointer (some ⟨b6, 0, none⟩), y17, y18, .slice (some ⟨b0, 0, none⟩) S.m S.m, y20, y21, y22, y23, y24, y25, y26, y27, y28, y29, y30, y31, y32, y33, y34, y35, y36, y37, y38, y39, y40, y41, y42, y43, y44, y45, y46, y47, y48, y49, y50, y51, y52, y53, y54, y55, y56, y57, y58, y59, y60, y61, y62, y63, y64, y65, y66, y67, y68, y69, y70, y71, y72, y73, y74, y75, y76, y77, y78, y79, y80, y81, y82, y83, y84, y85, y86, y87, y88, y89, y90, y91, y92, y93, y94, y95, y96, y97, y98, y99, y100, y101, y102, y103, y104, y105, y106, y107, y108, y109, y110, y111, y112, y113, y114, y115, y116, y117, y118, y119, y120, y121, y122, y123, y124, y125, y126, y127, y128, y129, y130, y131, y132, y133, y134, y135, y136, y137, y138, y139, y140, y141, y142, y143, y144, y145, y146, y147, y148, y149, y150, y151, y152, y153, y154, y155, y156, y157, y158, y159, y160, y161, y162, y163, y164, y165, y166, y167, y168, y169, y170, y171, y172, y173, y174, y175, y176, y177, y178, y179, y180, y181, y182, y183, y184, y185, y186, y187, y188, y189, y190, y191, y192, y193, y194, y195, y196, y197, y198, y199, y200, y201, y202, y203, y204, y205, y206, y207, y208, y209, y210, y211, y212, y213, y214, y215, y216, y217, y218, y219, y220, y221, y222, y223, y224, y225, y226, y227, y228, y229, y230, y231, y232, y233, y234, y235, y236, y237, y238, y239, y240, y241, y242, y243, y244, y245, y246, y247, y248, y249, y250, y251, y252, y253, y254, y255, y256, y257, y258, y259, y260, y261, y262, y263, y264, y265, y266, y267, y268, y269, y270, y271, y272], []⟩ wc := by
  refine hK _ _ ?_
  clear hK
  conv => arg 2; whnf
  have n45 := nep45
  have n24 := neq24
  have g24 := eg24
  have n26 := neq26
  have g26 := eg26
  have hS4 := HS4.out
  have HC := hide hcut
  clear hcut
  go_wp2_with fail
  go_loopg [23] 4 (fun g i wr => ∃ q : Nat, q + g = 4 ∧ i = .int .i64 q ∧ Below w7.heap.size w7 wr)
  case atStart => exact ⟨0, rfl, rfl, HC.out⟩
  case round =>
    clear HC
    obtain ⟨q, hq, rfl, hb⟩ := hrel
    have hwl : w7.heap.size ≤ wr.heap.size := hb.size
    by_cases hlt : q < 4
    · have hq' : (q : Int) < 4 := by omega
      by_cases e : q = S.N
      · subst e
        have HB := hide hb
        clear hb
        go_wp2_with fail
        go_roundg (gk - 1)
        case rel => exact ⟨S.N + 1, by omega, by go_num, HB.out⟩
        case measure => omega
      · have hne : ((q : Int) == (S.N : Int)) = false := by simp; omega
        have hne2 : decide ((q : Int) = (S.N : Int)) = false := by simp; omega
        have bx := blk hb HX.out (bx_lt HX.out)
        have bxl := bx_lt bx
        obtain ⟨c0, c1, c2, c3, c4, c5, c6, c7, c8⟩ := hI.at bx hlt
        have HLS := hide (H7.out.1.below hb)
        have hip := HLS.out.ip q hlt
        have hslt := HLS.out.lt
        have EL := hide (H7.out.2.eI q e)
        have HB := hide hb
        clear hb bx e
        go_wp2_with fail
        go_region_with (first
          | (go_at_call 19; refine zzip19 (S'.I q) q hlt (hip.below ((Below.refl _ _).drew) hslt) _ (fun w8 hb8 => ?_); rw [EL.out]; obtain ⟨hc8, hf8, _⟩ := bcellH wr hb8 rfl; have z8 : wr.heap.size ≤ w8.heap.size := hb8.size; have z8' : bw < w8.heap.size := Nat.lt_of_lt_of_le bxl hb8.size; have HB8 := hide ((Below.refl _ wr).drew.trans hb8); clear hb8)
          | (go_at_call 18; refine zzfrom18 (S.I q) _ _ (fun w9 hb9 => ?_); obtain ⟨hc9, hf9⟩ := bcell hb9; have HB9 := hide hb9; clear hb9))
        all_goals
          go_wp2
          go_roundg (4 - (q + 1))
          case rel => exact ⟨q + 1, by omega, by go_num, (HB.out.trans (HB8.out.mono hwl)).trans (HB9.out.mono (Nat.le_trans hwl z8))⟩
          case measure => omega
    · obtain rfl : q = 4 := by omega
      have HB := hide hb
      clear hb hq hlt hwl
      go_wp2_with fail
      rename (∀ (a : Act) (w : World), Code.wp Try.prog ((Try.f4.body.bind (fromReg 60)).getD Code.skip) (bodyPost Try.prog Try.f4 R) a w → _) => hk60
      replace hk60 := hide hk60
      go_loopg [24] S.N (fun g i wr => ∃ q : Nat, q + g = S.N ∧ i = .int .i64 q ∧ Below w7.heap.size w7 wr)
      case atStart => exact ⟨0, by omega, rfl, HB.out⟩
      case round =>
        clear HB
        obtain ⟨q, hq, rfl, hb⟩ := hrel
        have hwl : w7.heap.size ≤ wr.heap.size := hb.size
        by_cases hlt : q < S.N
        · have hq' : (q : Int) < 4 := by omega
          have bx := blk hb HX.out (bx_lt HX.out)
          have c0 := (hI.at bx (show q < 4 by omega)).c0
          have p1 : wr.cell? ⟨b6, q, none⟩ = some (.pointer (some ⟨s, q * 9 + 1, none⟩)) := (HQ.out.1.of_block (hb.block _ HQ.out.1.row.lt)).at' q hlt
          have HLS := hide (H7.out.1.below hb)
          have ER := hide (show (S'.I q).res = (S.I q).res by rw [H7.out.2.eI q (by omega)])
          have HB := hide hb
          have hqN : q < S'.N := by omega
          clear hb bx
          go_wp2_with fail
          go_region_with (go_at_call 25; refine of25I (HLS.out.below ((Below.refl _ _).drew)) H7.out.2.ds hqN ER.out _ (fun n1 => ?_))
          all_goals
            go_wp2
            go_roundg (gk - 1)
            case rel => exact ⟨q + 1, by omega, by go_num, Below_drewN HB.out _⟩
            case measure => omega
        · obtain rfl : q = S.N := by omega
          have HB := hide hb
          clear hb hq hlt hwl
          go_wp2_with fail
          exact law4c hR hI hlS hTS HFS hn hu HS4 B7 HX HQ H7 hNN hMM HB.out hk60.out

end Go.Proofs.Qxb6605402a
