import Derived.Test.Qxb6600489aMd
namespace Go.Proofs.Qxb6600489a
open Go.RowKit
set_option linter.unusedVariables false
set_option linter.unusedSimpArgs false

theorem bcell {W w1 : World} (hb : Below W.heap.size W w1) : (∀ b o, b < W.heap.size → w1.cell? ⟨b, o, none⟩ = W.cell? ⟨b, o, none⟩) ∧ (∀ b o, b < W.heap.size → w1.frozen? ⟨b, o, none⟩ = W.frozen? ⟨b, o, none⟩) :=
  ⟨fun b o h => hb.cell (p := ⟨b, o, none⟩) h, fun b o h => hb.frozen (p := ⟨b, o, none⟩) h⟩
theorem bcellH {W w1 : World} (W0 : World) (hb : Below W.heap.size W w1) (e : W.heap = W0.heap) : (∀ b o, b < W0.heap.size → w1.cell? ⟨b, o, none⟩ = W0.cell? ⟨b, o, none⟩) ∧ (∀ b o, b < W0.heap.size → w1.frozen? ⟨b, o, none⟩ = W0.frozen? ⟨b, o, none⟩) ∧ Below W0.heap.size W w1 := by
  refine ⟨fun b o h => ?_, fun b o h => ?_, e ▸ hb⟩
  · rw [hb.cell (p := ⟨b, o, none⟩) (by rw [e]; exact h)]
    simp [World.cell?, e]
  · rw [hb.frozen (p := ⟨b, o, none⟩) (by rw [e]; exact h)]
    simp [World.frozen?, e]
/-- what pick gave -/
def PickOut (P O : Nat → Tr) (np no : Nat) (Y : Nat → Int) (ny : Nat) (v8 v9 v10 : Value) (wc : World) : Prop :=
  (¬ Good P O np no Y ny ∧ v8 = .slice none 0 0 ∧ v9 = .slice none 0 0 ∧ v10 = .bool false) ∨
  (Good P O np no Y ny ∧ ∃ tb ag cg, v8 = .slice (some ⟨tb, 0, none⟩) ny ny ∧ v9 = .slice ag (G P np).length cg ∧ v10 = .bool true ∧ (∀ j, j < ny → ∃ i, fi P O no Y j np = some i ∧ TrAt wc tb (j * 3) (P i)) ∧ tb < wc.heap.size ∧ BtAt .u16 wc ag (G P np).length (fun i => (G P np).getD i 0))

set_option maxHeartbeats 40000000 in
set_option maxRecDepth 100000 in
theorem law3main (ap ao ay : Option Addr) (np no ny cp co cy : Nat) (P O : Nat → Tr) (Y : Nat → Int) (w : World) (hnp : np ≤ 4096) (hno : no ≤ 4096) (hny : ny ≤ 4096)
    (hP : TsAt w ap np P) (hO : TsAt w ao no O) (hY : BtAt .u8 w ay ny Y)
    (R : Ending → World → Prop) (hR : ∀ w', Below w.heap.size w w' → R (.returned (.bool true)) w') :
    Calls Try.prog 3 #[.slice ap np cp, .slice ao no co, .slice ay ny cy] w R := by
  have heq25 := fun (w : World) (a : Option Addr) (l c : Nat) => Lib.run_eql_slice_nil (P := Try.prog) w 25 42 a l c 0 0 Try.underlying25
  have heq30 := fun (w : World) (a : Option Addr) (l c : Nat) => Lib.run_eql_slice_nil (P := Try.prog) w 30 45 a l c 0 0 Try.underlying30
  have hs : 6 * (np : Int) + 6 * (no : Int) + (ny : Int) ≤ 1048576 := by omega
  have HP := hide hP
  have HO := hide hO
  have HY := hide hY
  clear hP hO hY
  have hgl : (G P np).length ≤ 4096 := Nat.le_trans (G_len P np) hnp
  go_enter Try.func3, Try.ntmps3
  go_upto_region 8 with (first
    | (go_at_call 6; refine bytes6 ap ao ay np no ny cp co cy w (by omega) (by omega) (by omega) _ (fun b => ?_); cases b)
    | (go_at_call 7; refine toTr7 ap P np cp hnp w HP.out _ (fun a1 c1 w1 h1 b1 => ?_); have H1 := hide (And.intro h1 b1); clear h1 b1))
  · exact Below.refl _ _
  · have F := hide (show TsAt (w1.alloc (.cells #[.int .u8 0, .int .u8 0, .slice none 0 0, .slice a1 np c1] 29)) a1 np P ∧ TsAt (w1.alloc (.cells #[.int .u8 0, .int .u8 0, .slice none 0 0, .slice a1 np c1] 29)) ao no O ∧ BtAt .u8 (w1.alloc (.cells #[.int .u8 0, .int .u8 0, .slice none 0 0, .slice a1 np c1] 29)) ay ny Y ∧ Below w.heap.size w (w1.alloc (.cells #[.int .u8 0, .int .u8 0, .slice none 0 0, .slice a1 np c1] 29)) ∧ (w1.alloc (.cells #[.int .u8 0, .int .u8 0, .slice none 0 0, .slice a1 np c1] 29)).heap[w1.heap.size]? = some (.cells #[.int .u8 0, .int .u8 0, .slice none 0 0, .slice a1 np c1] 29) by
      have b := H1.out.2.alloc H1.out.2.size (.cells #[.int .u8 0, .int .u8 0, .slice none 0 0, .slice a1 np c1] 29)
      exact ⟨H1.out.1.below ((Below.refl _ _).alloc (Nat.le_refl _) _), HO.out.below b, HY.out.below b, b, heap_new _ _⟩)
    revert F
    generalize w1.alloc (.cells #[.int .u8 0, .int .u8 0, .slice none 0 0, .slice a1 np c1] 29) = W1
    intro F
    have y0 := cell_of_heap F.out.2.2.2.2 0
    have y1 := cell_of_heap F.out.2.2.2.2 1
    have y2 := cell_of_heap F.out.2.2.2.2 2
    have y3 := cell_of_heap F.out.2.2.2.2 3
    have z1 := heap_lt F.out.2.2.2.2
    clear H1
    go_cut [8, 9, 10] (fun v8 v9 v10 wc => PickOut P O np no Y ny v8 v9 v10 wc ∧ Below w.heap.size w wc)
    case first =>
      by_cases hg : Good P O np no Y ny
      · have HG := hide hg
        go_region_with (first
          | (go_at_call 7; refine toTr7 ao O no co hno _ (F.out.2.1.below ((Below.refl _ _).drew)) _ (fun a2 c2 w2 h2 b2 => ?_); obtain ⟨hc2, hf2, b2'⟩ := bcellH W1 b2 rfl; have z2 : w1.heap.size < w2.heap.size := Nat.lt_of_lt_of_le z1 b2'.size; have H2 := hide (And.intro h2 ((Below.refl _ W1).drew.trans b2')); clear h2 b2 b2')
          | (go_at_call 9; refine toTypes9 ay Y ny cy hny _ (F.out.2.2.1.below H2.out.2) _ (fun a3 c3 w3 h3 b3 => ?_); obtain ⟨hc3, hf3⟩ := bcell b3; have H3 := hide (And.intro h3 b3); clear h3 b3)
          | (go_at_call 8; refine zpick8 a1 a2 a3 np no ny c1 c2 c3 P O Y 0 0 _ hnp hno hny ((F.out.1.below H2.out.2).below H3.out.2) (H2.out.1.below H3.out.2) H3.out.1 _ (fun w4 q b => (q hg).elim) (fun w4 tb ag cg q1 q2 q3 q4 b => ?_); have HB4 := hide (((F.out.2.2.2.1.trans (H2.out.2.mono F.out.2.2.2.1.size)).trans (H3.out.2.mono (Nat.le_trans F.out.2.2.2.1.size H2.out.2.size))).trans (b.mono (Nat.le_trans (Nat.le_trans F.out.2.2.2.1.size H2.out.2.size) H3.out.2.size))); clear b; have HQ := hide (And.intro q2 (And.intro q3 q4)); clear q1 q2 q3 q4))
        all_goals
          go_wp2
          go_meet
          case rel => exact ⟨.inr ⟨HG.out, tb, ag, cg, rfl, rfl, rfl, HQ.out.1, HQ.out.2.1, HQ.out.2.2⟩, HB4.out⟩
      · have HG := hide hg
        go_region_with (first
          | (go_at_call 7; refine toTr7 ao O no co hno _ (F.out.2.1.below ((Below.refl _ _).drew)) _ (fun a2 c2 w2 h2 b2 => ?_); obtain ⟨hc2, hf2, b2'⟩ := bcellH W1 b2 rfl; have z2 : w1.heap.size < w2.heap.size := Nat.lt_of_lt_of_le z1 b2'.size; have H2 := hide (And.intro h2 ((Below.refl _ W1).drew.trans b2')); clear h2 b2 b2')
          | (go_at_call 9; refine toTypes9 ay Y ny cy hny _ (F.out.2.2.1.below H2.out.2) _ (fun a3 c3 w3 h3 b3 => ?_); obtain ⟨hc3, hf3⟩ := bcell b3; have H3 := hide (And.intro h3 b3); clear h3 b3)
          | (go_at_call 8; refine zpick8 a1 a2 a3 np no ny c1 c2 c3 P O Y 0 0 _ hnp hno hny ((F.out.1.below H2.out.2).below H3.out.2) (H2.out.1.below H3.out.2) H3.out.1 _ (fun w4 q b => ?_) (fun w4 tb ag cg q1 q2 q3 q4 b => (hg q1).elim); have HB4 := hide (((F.out.2.2.2.1.trans (H2.out.2.mono F.out.2.2.2.1.size)).trans (H3.out.2.mono (Nat.le_trans F.out.2.2.2.1.size H2.out.2.size))).trans (b.mono (Nat.le_trans (Nat.le_trans F.out.2.2.2.1.size H2.out.2.size) H3.out.2.size))); clear b; clear q))
        all_goals
          go_wp2
          go_meet
          case rel => exact ⟨.inl ⟨HG.out, rfl, rfl, rfl⟩, HB4.out⟩
    case rest =>
      obtain ⟨hp, hb⟩ := hcut
      have hbz := hb.size
      have M := hide (And.intro (HP.out.below hb) (And.intro (HO.out.below hb) (HY.out.below hb)))
      clear y0 y1 y2 y3 F z1
      rcases hp with ⟨hng, rfl, rfl, rfl⟩ | ⟨hg, tb, ag, cg, rfl, rfl, rfl, hts, htl, hgr⟩
      · have HB := hide hb
        clear hb
        go_wp2_with (go_at_call 10; refine model10 ap ao ay np no ny cp co cy P O Y wc hnp hno hny M.out.1 M.out.2.1 M.out.2.2 _ (fun w5 q b => ?_) (fun w5 tb ag cg q1 q2 q3 q4 b => (hng q1).elim); have HB5 := hide (HB.out.trans (b.mono hbz)); clear b q)
        exact HB5.out
      · have HB := hide (And.intro hb (And.intro hts hgr))
        clear hb hts hgr
        go_wp2_with (go_at_call 10; refine model10 ap ao ay np no ny cp co cy P O Y wc hnp hno hny M.out.1 M.out.2.1 M.out.2.2 _ (fun w5 q b => (q hg).elim) (fun w5 tb2 ag2 cg2 q1 q2 q3 q4 b => ?_); have HQ := hide (And.intro q2 (And.intro q4 b)); clear q1 q2 q4 b)
        have hb5 := HQ.out.2.2.size
        have htl5 : tb < w5.heap.size := Nat.lt_of_lt_of_le htl hb5
        have H8 := hide (show (∀ j, j < ny → ∃ i, fi P O no Y j np = some i ∧ TrAt w5 tb (j * 3) (P i)) ∧ BtAt .u16 w5 ag (G P np).length (fun i => (G P np).getD i 0) ∧ (∀ j, j < ny → ∃ i, fi P O no Y j np = some i ∧ TrAt w5 tb2 (j * 3) (P i)) ∧ BtAt .u16 w5 ag2 (G P np).length (fun i => (G P np).getD i 0) ∧ Below w.heap.size w w5 by
          refine ⟨fun j hj => ?_, HB.out.2.2.below HQ.out.2.2, HQ.out.1, HQ.out.2.1, HB.out.1.trans (HQ.out.2.2.mono hbz)⟩
          obtain ⟨i, h1, h2⟩ := HB.out.2.1 j hj
          exact ⟨i, h1, h2.keep (HQ.out.2.2.block tb htl)⟩)
        clear HB HQ M
        go_loopg [14] ny (fun g t wr => ∃ j : Nat, j + g = ny ∧ t = .int .i64 j ∧ Below w5.heap.size w5 wr)
        case atStart => exact ⟨0, by omega, rfl, Below.refl _ _⟩
        case round =>
          obtain ⟨j, hj, rfl, hb⟩ := hrel
          have hwl := hb.size
          by_cases hlj : j < ny
          · obtain ⟨i1, e1, t1⟩ := H8.out.1 j hlj
            obtain ⟨i2, e2, t2⟩ := H8.out.2.2.1 j hlj
            obtain rfl : i1 = i2 := by rw [e1] at e2; cases e2; rfl
            obtain ⟨x0, x1, x2⟩ := t1.keep (hb.block tb htl5)
            obtain ⟨y0, y1, y2⟩ := t2.keep (hb.block tb2 q3)
            have HB := hide hb
            clear hb t1 t2 e1 e2
            go_wp2
            go_region_with (go_at_call 11; refine same11 (P i1) _ _ (fun w9 b9 => ?_); obtain ⟨hc9, hf9, b9'⟩ := bcellH wr b9 rfl; have HB9 := hide ((Below_drewN (Below.refl _ wr) _).trans b9'); clear b9 b9')
            all_goals
              go_wp2
              go_roundg (gk - 1)
              case rel => exact ⟨j + 1, by omega, by go_num, HB.out.trans (HB9.out.mono hwl)⟩
              case measure => omega
          · obtain rfl : j = ny := by omega
            obtain ⟨w6, rfl⟩ : ∃ w6, w6 = wr := ⟨_, rfl⟩
            have HB := hide hb
            clear hb hlj hj
            go_wp2
            go_loopg [15] (G P np).length (fun g t wr => ∃ i : Nat, i + g = (G P np).length ∧ t = .int .i64 i ∧ Below w6.heap.size w6 wr)
            case atStart => exact ⟨0, by omega, rfl, Below.refl _ _⟩
            case round =>
              obtain ⟨i, hi, rfl, hb⟩ := hrel
              by_cases hli : i < (G P np).length
              · obtain ⟨b1, o1, rfl, hb1, g1⟩ := ((H8.out.2.1.below HB.out).below hb) i hli
                obtain ⟨b2, o2, rfl, hb2, g2⟩ := ((H8.out.2.2.2.1.below HB.out).below hb) i hli
                have HB2 := hide hb
                clear hb
                go_wp2
                go_quiet (fail)
                go_wp2
                go_roundg (gk - 1)
                case rel => exact ⟨i + 1, by omega, by go_num, Below_drewN HB2.out _⟩
                case measure => omega
              · have hge : ((G P np).length : Int) ≤ (i : Int) := by omega
                have HB2 := hide hb
                clear hb hli hi
                go_wp2
                exact H8.out.2.2.2.2.trans (((HB.out.trans (HB2.out.mono HB.out.size))).mono H8.out.2.2.2.2.size)

end Go.Proofs.Qxb6600489a
