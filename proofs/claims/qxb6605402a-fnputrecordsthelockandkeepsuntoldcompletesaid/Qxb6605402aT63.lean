import Derived.Test.Qxb6605402aT80
namespace Go.Proofs.Qxb6605402a
open Go.RowKit Go.Maps
set_option linter.unusedVariables false
set_option linter.unusedSimpArgs false

set_option maxRecDepth 1000000 in
set_option maxHeartbeats 10000000 in
theorem t63 {w : World} {R : Ending → World → Prop} (hR : ∀ w', Below w.heap.size w w' → R (.returned (.bool true)) w') {S S' : LD} {s bs bw : Nat} {cs : Array Value} {w7 w8 : World} {a4 a5 : Option Addr} {cap4 cap5 : Nat} {r : ByteArray} {mode : ByteArray} {ver : Int} {cdr lo tt wri : Bool} {tok sqn : Int} {sl oat : Int} {isO ex wl : Bool}
    (hI : IpAt cs S.I) (hTS : ∀ j, j < S.u → S.T j < S.m) (HFS : Hid (∀ i, i < S.m → (S.F i = true ↔ ∃ j, j < S.u ∧ S.T j = i))) (hn : S.m ≤ 4096) (hu : S.u ≤ 4096) (B7 : Below w.heap.size w w7)
    (HX : Hid (w7.heap[bw]? = some (.cells cs 27) ∧ w7.heap[bw + 1]? = some (.cells #[.string mode, .int .u64 ver, .bool cdr, .bool lo, .bool tt, .bool wri, .int .u64 tok, .int .u64 sqn] 24))) (HQ : Hid (OtAt w7 a4 S.m S.O ∧ UtAt w7 a5 S.u (fun j => (S.T j : Int))))
    (H7 : Hid (LS w7 bs s S' ∧ Q5 S S' r ⟨mode, ver, cdr, lo, tt, wri, tok, sqn⟩ sl oat isO ex wl)) (hcut : Below w7.heap.size w7 w8) {e1 : Int} (he1 : e1 = if ex = true then 1 else 0)
    {K : Act → World → Prop} (hK : ∀ a w, Code.wp Try.prog ((Try.f5.body.bind (fromR 63)).getD Code.skip) (bodyPost Try.prog Try.f5 R) a w → K a w)
    {y0 y1 y5 y7 y8 y9 y10 y12 y13 y16 y17 y18 y19 y22 y23 y24 y27 y28 y29 y30 y31 y32 y33 y34 y35 y36 y37 y38 y39 y40 y41 y42 y43 y44 y45 y46 y47 y48 y49 y50 y51 y52 y53 y54 y55 y56 y57 y58 y59 y60 y61 y62 y63 y64 y65 y66 y67 y68 y69 y70 y71 y72 y73 y74 y75 y76 y77 y78 y79 y80 y81 y82 y83 y84 y85 y86 y87 y88 y89 y90 y91 y92 y93 y94 y95 y96 y97 y98 y99 y100 y101 y102 y103 y104 y105 y106 y107 y108 y109 y110 y111 y112 y113 y114 y115 y116 y117 y118 y119 y120 y121 y122 y123 y124 y125 y126 y127 y128 y129 y130 y131 y132 y133 y134 y135 y136 y137 y138 y139 y140 y141 y142 y143 y144 y145 y146 y147 y148 y149 y150 y151 y152 y153 y154 y155 y156 y157 y158 y159 y160 y161 y162 y163 y164 y165 y166 y167 y168 y169 y170 y171 y172 y173 y174 y175 y176 y177 y178 y179 y180 y181 y182 y183 y184 y185 y186 y187 y188 y189 y190 y191 y192 y193 y194 y195 y196 y197 y198 y199 y200 y201 y202 y203 y204 y205 y206 y207 y208 y209 y210 y211 y212 y213 y214 y215 y216 y217 y218 y219 y220 y221 y222 y223 y224 y225 y226 y227 y228 y229 y230 y231 y232 y233 y234 y235 y236 y237 y238 y239 y240 y241 y242 y243 y244 y245 y246 y247 y248 y249 y250 y251 y252 y253 y254 y255 y256 y257 y258 y259 y260 y261 y262 y263 y264 y265 y266 y267 y268 y269 y270 y271 y272 y273 y274 y275 y276 y277 y278 y279 y280 y281 y282 y283 y284 y285 y286 y287 y288 y289 y290 y291 : Value} : K ⟨#[y0, y1, .slice a4 S.m cap4, .slice a5 S.u cap5, .string r, y5, .pointer (some ⟨bw, 0, none⟩), y7, y8, y9, y10, .pointer (some ⟨bw + 1, 0, none⟩), y12, y13, .int .i64 oat, .pointer (some ⟨s, 0, none⟩), y16, y17, y18, y19, .bool isO, .int .i64 sl, y22, y23, y24, .bool wl, .int .i64 e1, y27, y28, y29, y30, y31, y32, y33, y34, y35, y36, y37, y38, y39, y40, y41, y42, y43, y44, y45, y46, y47, y48, y49, y50, y51, y52, y53, y54, y55, y56, y57, y58, y59, y60, y61, y62, y63, y64, y65, y66, y67, y68, y69, y70, y71, y72, y73, y74, y75, y76, y77, y78, y79, y80, y81, y82, y83, y84, y85, y86, y87, y88, y89, y90, y91, y92, y93, y94, y95, y96, y97, y98, y99, y100, y101, y102, y103, y104, y105, y106, y107, y108, y109, y110, y111, y112, y113, y114, y115, y116, y117, y118, y119, y120, y121, y122, y123, y124, y125, y126, y127, y128, y129, y130, y131, y132, y133, y134, y135, y136, y137, y138, y139, y140, y141, y142, y143, y144, y145, y146, y147, y148, y149, y150, y151, y152, y153, y154, y155, y156, y157, y158, y159, y160, y161, y162, y163, y164, y165, y166, y167, y168, y169, y170, y171, y172, y173, y174, y175, y176, y177, y178, y179, y180, y181, y182, y183, y184, y185, y186, y187, y188, y189, y190, y191, y192, y193, y194, y195, y196, y197, y198, y199, y200, y201, y202, y203, y204, y205, y206, y207, y208, y209, y210, y211, y212, y213, y214, y215, y216, y217, y218, y219, y220, y221, y222, y223, y224, y225, y226, y227, y228, y229, y230, y231, y232, y233, y234, y235, y236, y237, y238, y239, y240, y241, y242, y243, y244, y245, y246, y247, y248, y249, y250, y251, y252, y253, y254, y255, y256, y257, y258, y259, y260, y261, y262, y263, y264, y265, y266, y267, y268, y269, y270, y271, y272, y273, y274, y275, y276, y277, y278, y279, y280, y281, y282, y283, y284, y285, y286, y287, y288, y289, y290, y291], []⟩ w8 := by
  refine hK _ _ ?_
  clear hK
  conv => arg 2; whnf
  dsimp only
  have HE1 := hide he1
  have HLS0 := hide (H7.out.1.below hcut)
  have HC3 := hide hcut
  have heu : Hid ((S'.u : Int) = (S.u : Int) + e1) := by
    show _ = _
    rw [H7.out.2.eu, he1]
    cases ex <;> simp
  have hu1 : S'.u ≤ 4097 := by rw [H7.out.2.eu]; split <;> omega
  have hel : 0 ≤ e1 := by rw [he1]; split <;> omega
  have heh : e1 ≤ 1 := by rw [he1]; split <;> omega
  clear he1 hcut
  go_wp2_with (go_at_call 17; refine zzul17 HLS0.out _ ?_; rw [heu.out])
  rename (∀ (a : Act) (w : World), Code.wp Try.prog ((Try.f5.body.bind (fromR 80)).getD Code.skip) (bodyPost Try.prog Try.f5 R) a w → _) => hk80
  replace hk80 := hide hk80
  go_loopg [28, 29, 30, 31, 32, 33] S'.u (fun g i _ _ _ _ _ wr => ∃ q : Nat, q + g = S'.u ∧ i = .int .i64 q ∧ Below w7.heap.size w7 wr)
  case atStart => exact ⟨0, by omega, rfl, HC3.out⟩
  case round =>
    clear HC3 HLS0
    obtain ⟨q, hq, rfl, hb⟩ := hrel
    have hwl : w7.heap.size ≤ wr.heap.size := hb.size
    have heu2 := heu.out
    by_cases hlt : q < S'.u
    · have hlt' : (q : Int) < (S.u : Int) + e1 := by omega
      have HLS := hide (H7.out.1.below hb)
      have HB := hide hb
      clear hb heu2
      go_upto_region 72 with (go_at_call 29; refine zzut29 HLS.out hlt _ (fun w9 hb9 => ?_); have HB9 := hide hb9; clear hb9)
      obtain ⟨nm, enm⟩ : ∃ nm, (S'.O (S'.T q)).res = nm := ⟨_, rfl⟩
      have HNM := hide enm
      rw [enm]
      clear enm
      have HB1 := hide (HB.out.trans (HB9.out.mono hwl))
      have HO9 := hide (HQ.out.1.below HB1.out)
      have HU9 := hide (HQ.out.2.below HB1.out)
      go_cut [255] (fun v wc => v = .bool false ∧ Below w7.heap.size w7 wc)
      case first =>
        by_cases hqu : q < S.u
        · have hnm : Hid ((S.O (S.T q)).res = nm) := by show _ = _; rw [← HNM.out, H7.out.2.eR q hqu]
          go_wp2_with (go_at_call 32; refine resListed32 a4 S.O S.m cap4 hn a5 S.u cap5 hu S.T hTS nm w9 HO9.out HU9.out _ (fun b h1 h2 => ?_); obtain rfl : b = true := (by cases b with | false => exact (h2 rfl q hqu hnm.out).elim | true => rfl); clear h1 h2)
          go_meet
          case rel => exact ⟨rfl, HB1.out⟩
        · have hex : ex = true := by
            have := H7.out.2.eu
            cases ex with
            | true => rfl
            | false => simp at this; omega
          have hqe : q = S.u := by
            have := H7.out.2.eu
            rw [hex] at this
            simp at this
            omega
          have hnr : nm = r := by rw [← HNM.out, hqe]; exact H7.out.2.tR hex
          have he1 : e1 = 1 := by rw [HE1.out, hex]; rfl
          have hst := strT (rfl : r = r)
          subst hnr
          subst he1
          have HHx := hide hqe
          clear hqe hex
          go_wp2_with (go_at_call 32; refine resListed32 a4 S.O S.m cap4 hn a5 S.u cap5 hu S.T hTS nm w9 HO9.out HU9.out _ (fun b h1 h2 => ?_); clear h1 h2; cases b)
          all_goals
            go_meet
            case rel => exact ⟨rfl, HB1.out⟩
      case rest =>
        obtain ⟨rfl, hb1⟩ := hcut
        have HC := hide hb1
        clear hb1 HB HB9 HB1 HO9 HU9 HLS hwl
        go_wp2_with fail
        go_loopg [31, 32, 33] q (fun g i _ _ wr => ∃ m : Nat, m + g = q ∧ i = .int .i64 m ∧ Below w7.heap.size w7 wr)
        case atStart => exact ⟨0, by omega, rfl, HC.out⟩
        case round =>
          clear HC
          obtain ⟨m, hm, rfl, hb⟩ := hrel
          have hwl : w7.heap.size ≤ wr.heap.size := hb.size
          by_cases hlm : m < q
          · have hne := strF (a := (S'.O (S'.T m)).res) (b := nm) (by rw [← HNM.out]; exact H7.out.2.ws.ne hlm hlt)
            have HLS := hide (H7.out.1.below hb)
            have hmu : m < S'.u := by omega
            have HB := hide hb
            clear hb
            go_wp2_with (go_at_call 29; refine zzut29 HLS.out hmu _ (fun w9 hb9 => ?_); have HB9 := hide hb9; clear hb9)
            go_roundg (gk - 1)
            case rel => exact ⟨m + 1, by omega, by go_num, HB.out.trans (HB9.out.mono hwl)⟩
            case measure => omega
          · obtain rfl : m = q := by omega
            have HB := hide hb
            clear hb hlm hm
            go_wp2_with fail
            go_roundg (S'.u - (m + 1))
            case rel => exact ⟨m + 1, by omega, by go_num, HB.out⟩
            case measure => omega
    · have hlt' : ¬ ((q : Int) < (S.u : Int) + e1) := by omega
      have HB := hide hb
      clear hb hq hlt hwl heu2
      go_wp2_with fail
      exact t80 hR hI hTS HFS hn hu B7 HX HQ H7 HB.out HE1.out hk80.out

end Go.Proofs.Qxb6605402a
