import Derived.Test.Qxb6605402aLaw4b
namespace Go.Proofs.Qxb6605402a
open Go.RowKit Go.Maps
set_option linter.unusedVariables false
set_option linter.unusedSimpArgs false

set_option maxRecDepth 1000000 in
set_option maxHeartbeats 10000000 in
theorem law4n {w : World} {R : Ending → World → Prop} (hR : ∀ w', Below w.heap.size w w' → R (.returned (.bool true)) w') {S S' : LD} {s bs b6 b0 bw : Nat} {cs : Array Value} {w7 wc : World} {a4 a5 : Option Addr} {cap4 cap5 : Nat} {r : ByteArray} {mode : ByteArray} {ver : Int} {cdr lo tt wri : Bool} {tok sqn : Int} {pb po : Nat}
    (hI : IpAt cs S.I) (hlS : ∀ i, i < S.m → (S.O i).res.size ≤ maxLen) (hTS : ∀ j, j < S.u → S.T j < S.m) (HFS : Hid (∀ i, i < S.m → (S.F i = true ↔ ∃ j, j < S.u ∧ S.T j = i))) (hn : S.m ≤ 4096) (hu : S.u ≤ 4096) (hr : r.size ≤ maxLen) (hS4 : S.N ≤ 4)
    (B7 : Below w.heap.size w w7) (HX : Hid (w7.heap[bw]? = some (.cells cs 27) ∧ w7.heap[bw + 1]? = some (.cells #[.string mode, .int .u64 ver, .bool cdr, .bool lo, .bool tt, .bool wri, .int .u64 tok, .int .u64 sqn] 24)))
    (HQ : Hid (PtrRow w7 b6 52 4 (fun j => ⟨s, j * 9 + 1, none⟩) S.N ∧ PtrRow w7 b0 45 S.m (fun j => ⟨S.B j, 0, none⟩) S.m ∧ OtAt w7 a4 S.m S.O ∧ UtAt w7 a5 S.u (fun j => (S.T j : Int))))
    (H7 : Hid (LS w7 bs s S' ∧ AR S S' s r ⟨mode, ver, cdr, lo, tt, wri, tok, sqn⟩ pb po)) (hbc : Below w7.heap.size w7 wc)
    {K : Act → World → Prop} (hK : ∀ a w, Code.wp Try.prog ((Try.f4.body.bind (fromReg 36)).getD Code.skip) (bodyPost Try.prog Try.f4 R) a w → K a w)
    {y0 y5 y7 y8 y9 y10 y12 y13 y14 y17 y18 y20 y21 y23 y24 y25 y26 y27 y28 y29 y30 y31 y32 y33 y34 y35 y36 y37 y38 y39 y40 y41 y42 y43 y44 y45 y46 y47 y48 y49 y50 y51 y52 y53 y54 y55 y56 y57 y58 y59 y60 y61 y62 y63 y64 y65 y66 y67 y68 y69 y70 y71 y72 y73 y74 y75 y76 y77 y78 y79 y80 y81 y82 y83 y84 y85 y86 y87 y88 y89 y90 y91 y92 y93 y94 y95 y96 y97 y98 y99 y100 y101 y102 y103 y104 y105 y106 y107 y108 y109 y110 y111 y112 y113 y114 y115 y116 y117 y118 y119 y120 y121 y122 y123 y124 y125 y126 y127 y128 y129 y130 y131 y132 y133 y134 y135 y136 y137 y138 y139 y140 y141 y142 y143 y144 y145 y146 y147 y148 y149 y150 y151 y152 y153 y154 y155 y156 y157 y158 y159 y160 y161 y162 y163 y164 y165 y166 y167 y168 y169 y170 y171 y172 y173 y174 y175 y176 y177 y178 y179 y180 y181 y182 y183 y184 y185 y186 y187 y188 y189 y190 y191 y192 y193 y194 y195 y196 y197 y198 y199 y200 y201 y202 y203 y204 y205 y206 y207 y208 y209 y210 y211 y212 y213 y214 y215 y216 y217 y218 y219 y220 y221 y222 y223 y224 y225 y226 y227 y228 y229 y230 y231 y232 y233 y234 y235 y236 y237 y238 y239 y240 y241 y242 y243 y244 y245 y246 y247 y248 y249 y250 y251 y252 y253 y254 y255 y256 y257 y258 y259 y260 y261 y262 y263 y264 y265 y266 y267 y268 y269 y270 y271 y272 : Value} : K ⟨#[y0, .int .i64 (S.N : Int), .slice a4 S.m cap4, .slice a5 S.u cap5, .string r, y5, .pointer (some ⟨bw, 0, none⟩), y7, y8, y9, y10, .pointer (some ⟨bw + 1, 0, none⟩), y12, y13, y14, .pointer (some ⟨s, 0, none⟩), .pointer (some ⟨b6, 0, none⟩), y17, y18, .slice (some ⟨b0, 0, none⟩) S.m S.m, y20, y21, .pointer (some ⟨pb, po, none⟩), y23, y24, y25, y26, y27, y28, y29, y30, y31, y32, y33, y34, y35, y36, y37, y38, y39, y40, y41, y42, y43, y44, y45, y46, y47, y48, y49, y50, y51, y52, y53, y54, y55, y56, y57, y58, y59, y60, y61, y62, y63, y64, y65, y66, y67, y68, y69, y70, y71, y72, y73, y74, y75, y76, y77, y78, y79, y80, y81, y82, y83, y84, y85, y86, y87, y88, y89, y90, y91, y92, y93, y94, y95, y96, y97, y98, y99, y100, y101, y102, y103, y104, y105, y106, y107, y108, y109, y110, y111, y112, y113, y114, y115, y116, y117, y118, y119, y120, y121, y122, y123, y124, y125, y126, y127, y128, y129, y130, y131, y132, y133, y134, y135, y136, y137, y138, y139, y140, y141, y142, y143, y144, y145, y146, y147, y148, y149, y150, y151, y152, y153, y154, y155, y156, y157, y158, y159, y160, y161, y162, y163, y164, y165, y166, y167, y168, y169, y170, y171, y172, y173, y174, y175, y176, y177, y178, y179, y180, y181, y182, y183, y184, y185, y186, y187, y188, y189, y190, y191, y192, y193, y194, y195, y196, y197, y198, y199, y200, y201, y202, y203, y204, y205, y206, y207, y208, y209, y210, y211, y212, y213, y214, y215, y216, y217, y218, y219, y220, y221, y222, y223, y224, y225, y226, y227, y228, y229, y230, y231, y232, y233, y234, y235, y236, y237, y238, y239, y240, y241, y242, y243, y244, y245, y246, y247, y248, y249, y250, y251, y252, y253, y254, y255, y256, y257, y258, y259, y260, y261, y262, y263, y264, y265, y266, y267, y268, y269, y270, y271, y272], []⟩ wc := by
  refine hK _ _ ?_
  clear hK
  conv => arg 2; whnf
  have n45 := nep45
  have n24 := neq24
  have g24 := eg24
  have n26 := neq26
  have g26 := eg26
  have hxl := bx_lt HX.out.2
  have slt7 := H7.out.1.lt
  have hpb : pb < w7.heap.size := block_lt_of_cell (H7.out.2.hd H7.out.1).c0
  have hxc := blk hbc HX.out.2 (bx_lt HX.out.2)
  have e0 := cell_of_heap hxc 0
  have e1 := cell_of_heap hxc 1
  have e2 := cell_of_heap hxc 2
  have e3 := cell_of_heap hxc 3
  have e4 := cell_of_heap hxc 4
  have e5 := cell_of_heap hxc 5
  have e6 := cell_of_heap hxc 6
  have e7 := cell_of_heap hxc 7
  have hxl2 := bx_lt hxc
  have hwl : w7.heap.size ≤ wc.heap.size := hbc.size
  have HLC := hide (H7.out.1.below hbc)
  have HBC := hide hbc
  clear hxc hbc
  go_upto_if 127 with (fail)
  go_cut [12] (fun _ wc => Below w7.heap.size w7 wc)
  case first =>
    rcases H7.out.2.alt with ⟨h4, hN', hm', eI', epb, epo⟩ | ⟨h4, hN', hm', eO', eF', epb, epo⟩
    · have d4 : (S.N : Int) < 4 := by omega
      have q1 : Hid (((S'.N : Nat) : Int) = (S.N : Int) + 1) := by show _ = _; omega
      have q2 : Hid (((S'.m : Nat) : Int) = (S.m : Int)) := by show _ = _; omega
      have hip := HLC.out.ip S.N h4
      have sltc := HLC.out.lt
      have EL := hide eI'
      subst epb epo
      clear hN' hm' eI'
      go_upto_region 41 with (first
        | (go_at_call 15; refine zzn15 HLC.out _ ?_; rw [q1.out])
        | (go_at_call 16; refine zzol16 HLC.out _ ?_; rw [q2.out])
        | (go_at_call 27; refine zzipc27 S.N h4 _ ?_))
      go_region_with (first
        | (go_at_call 19; refine zzip19 (S'.I S.N) S.N h4 (hip.below ((Below.refl _ _).drew) sltc) _ (fun w8 hb8 => ?_); rw [EL.out]; obtain ⟨hc8, hf8, _⟩ := bcellH wc hb8 rfl; have z8 : wc.heap.size ≤ w8.heap.size := hb8.size; have z8' : bw + 1 < w8.heap.size := Nat.lt_of_lt_of_le hxl2 hb8.size; have HB8 := hide ((Below.refl _ wc).drew.trans hb8); clear hb8)
        | (go_at_call 18; refine zzfrom18 ⟨r, ⟨mode, ver, cdr, lo, tt, wri, tok, sqn⟩⟩ _ _ (fun w9 hb9 => ?_); obtain ⟨hc9, hf9⟩ := bcell hb9; have HB9 := hide hb9; clear hb9))
      all_goals
        go_wp2
        go_meet
        case rel => exact (HBC.out.trans (HB8.out.mono hwl)).trans (HB9.out.mono (Nat.le_trans hwl z8))
    · have d4 : decide ((S.N : Int) < 4) = false := by simp; omega
      have q1 : Hid (((S'.N : Nat) : Int) = 4) := by show _ = _; omega
      have q2 : Hid (((S'.m : Nat) : Int) = (S.m : Int) + 1) := by show _ = _; omega
      have hm1 : S.m < S'.m := by omega
      have EL := hide (show (S'.O S.m).res = r by rw [eO'])
      have EF := hide eF'
      subst epb epo
      clear hN' hm' eO' eF' h4
      rw [d4]
      clear d4
      go_wp2_with (first
        | (go_at_call 15; refine zzn15 HLC.out _ ?_; rw [q1.out])
        | (go_at_call 16; refine zzol16 HLC.out _ ?_; rw [q2.out])
        | (go_at_call 20; refine zzoc20r HLC.out hm1 EL.out _ ?_)
        | (go_at_call 22; refine zzou22r HLC.out hm1 EL.out _ ?_; rw [EF.out]))
      go_meet
      case rel => exact HBC.out
  case rest =>
    have hNN : S.N ≤ S'.N := by rcases H7.out.2.alt with ⟨_, h, _⟩ | ⟨_, h, _⟩ <;> omega
    have hMM : S.m ≤ S'.m := by rcases H7.out.2.alt with ⟨_, _, h, _⟩ | ⟨_, _, h, _⟩ <;> omega
    exact law4b hR hI hlS hTS HFS hn hu (hide hS4) B7 (hide HX.out.1) HQ H7 hNN hMM hcut (by assumption)

end Go.Proofs.Qxb6605402a
