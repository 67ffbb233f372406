import Derived.Test.Qxb6605442aZl
namespace Go.Proofs.Qxb6605442a
open Go.RowKit
set_option linter.unusedVariables false
set_option linter.unusedSimpArgs false

set_option maxHeartbeats 2000000 in
set_option maxRecDepth 100000 in
theorem bytes13 (c x m : Int) (a1 a2 a3 a4 a5 : Option Addr) (n1 n2 n3 n4 n5 c1 c2 c3 c4 c5 : Nat) (w : World) (h1 : n1 ≤ 9223372036854775807) (h2 : n2 ≤ 9223372036854775807) (h3 : n3 ≤ 9223372036854775807) (h4 : n4 ≤ 9223372036854775807) (h5 : n5 ≤ 9223372036854775807)
    (R : Ending → World → Prop) (hR : ∀ b, R (.returned (.bool b)) w) :
    Calls Try.prog 13 #[.int .i64 c, .int .i64 x, .slice a1 n1 c1, .slice a2 n2 c2, .slice a3 n3 c3, .slice a4 n4 c4, .slice a5 n5 c5, .int .i64 m] w R := by
  go_enter Try.func13, Try.ntmps13
  go_wp2
  all_goals exact hR _

/-- 'make([]bool, n)' -/
theorem make_false (n : Nat) (hn : n ≤ 1048576) : ∃ cs : Array Value, cs.size = n ∧ (∀ i, i < n → cs[i]? = some (.bool false)) ∧ ∀ w, (Instr.makeSlice 32 (.int .i64 (n : Int)) (.int .i64 (n : Int))).run Try.prog w = .ok (.slice (some ⟨w.heap.size, 0, none⟩) n n) (w.alloc (.cells cs 4)) := by
  have hinfo : (Try.prog.info? 4).map (fun i => (i.zero, i.size, i.bytes)) = some (some (.bool false), 1, 1) := by kernel_rfl
  obtain ⟨i, hi, hzz⟩ := Option.map_eq_some_iff.1 hinfo
  simp only [Prod.mk.injEq] at hzz
  obtain ⟨hz, hs, hby⟩ := hzz
  refine ⟨madeCells (Value.bool false).cells (n * 1), by rw [size_madeCells, Nat.mul_one], fun j hj => ?_, fun w => ?_⟩
  · simp [madeCells, Value.cells, hj, Nat.mod_one]
  · have hb' : (i.bytes : Int) * (n : Int) ≤ 281474976710656 := by rw [hby]; omega
    have hr := run_make (P := Try.prog) w 32 4 i _ Try.underlying32 hi hz .i64 .i64 n n (by omega) (Int.le_refl _) hb' (by omega)
    simp only [Int.toNat_natCast, hs] at hr
    exact hr


set_option maxHeartbeats 4000000 in
set_option maxRecDepth 100000 in
theorem law5main (cnt made : Int) (l0 : Nat) (aj ax at' ah ao : Option Addr) (J q K cj cx ct ch co : Nat) (X : Nat → Nat) (T tq th : Nat → Int) (jo : Nat → Bool) (w : World)
    (hT : BtAt .i64 w aj J T) (hX : BtAt .u32 w ax q (fun i => (X i : Int))) (hA : BtAt .i64 w at' K tq) (hH : BtAt .i64 w ah K th) (hO : BoAt w ao K jo) (hXr : ∀ i, i < q → X i ≤ 4294967295)
    (hJ16 : J ≤ 65536) (hK16 : K ≤ 65536) (hq16 : q ≤ 65536) (hl63 : l0 ≤ 9223372036854775807) (hsum : 8 * J + 4 * q + 8 * K + 8 * K + K ≤ 1048576)
    (R : Ending → World → Prop) (hR : ∀ w', Below w.heap.size w w' → R (.returned (.bool true)) w') :
    Calls Try.prog 5 #[.int .i64 cnt, .int .i64 l0, .slice aj J cj, .slice ax q cx, .slice at' K ct, .slice ah K ch, .slice ao K co, .int .i64 made] w R := by
  obtain ⟨last, hlast⟩ : ∃ last, IntKind.i64.wrap (cnt - 1) = last := ⟨_, rfl⟩
  have hs' : 8 * (J : Int) + 4 * (q : Int) + 8 * (K : Int) + 8 * (K : Int) + (K : Int) ≤ 1048576 := by omega
  have HT := hide hT
  have HX := hide hX
  have HA := hide hA
  have HH := hide hH
  have HO := hide hO
  clear hT hX hA hH hO
  go_enter Try.func5, Try.ntmps5
  go_wp2_with (go_at_call 13; refine bytes13 cnt l0 made aj ax at' ah ao J q K K K cj cx ct ch co w (by omega) (by omega) (by omega) (by omega) (by omega) _ (fun b => ?_); cases b)
  · exact Below.refl _ _
  · go_loopg [17] q (fun g t wr => ∃ k : Nat, k + g = q ∧ t = .int .i64 k ∧ (∀ i, i < k → X i < K) ∧ wr = w)
    case atStart => exact ⟨0, by omega, rfl, fun i hi => by omega, rfl⟩
    case round =>
      obtain ⟨k, hk, rfl, hxs, rfl⟩ := hrel
      by_cases hlt : k < q
      · obtain ⟨b, o, rfl, hbs, hc⟩ := HX.out k hlt
        have hr := hXr k hlt
        by_cases hx : X k < K
        · have hx' : ((X k : Nat) : Int) < (K : Int) := by omega
          have HS := hide hxs
          clear hxs hs'
          go_wp2
          go_roundg (gk - 1)
          case rel => exact ⟨k + 1, by omega, by go_num, fun i hi => by
            by_cases e : i = k
            · subst e; exact hx
            · exact HS.out i (by omega), rfl⟩
          case measure => omega
        · have hx' : (K : Int) ≤ ((X k : Nat) : Int) := by omega
          clear hxs hs'
          go_wp2
          exact Below.refl _ _
      · obtain rfl : k = q := by omega
        have HS := hide hxs
        clear hxs hs' hlt hk
        go_wp2_with (first
          | (go_at_call 16; refine clone16 ao K co jo w4 (by omega) (HO.out.below B4.out.2) _ (fun a5 c5 w5 h5 b5 => ?_); have B5 := hide (And.intro h5 (B4.out.2.trans (b5.mono B4.out.2.size))); have D5 := hide b5; clear h5 b5)
          | (go_at_call 14; refine clone14 ah K ch th w3 (by omega) (HH.out.below B3.out.2) _ (fun a4 c4 w4 h4 b4 => ?_); have B4 := hide (And.intro h4 (B3.out.2.trans (b4.mono B3.out.2.size))); have D4 := hide b4; clear h4 b4)
          | (go_at_call 14; refine clone14 at' K ct tq w2 (by omega) (HA.out.below B2.out.2.2) _ (fun a3 c3 w3 h3 b3 => ?_); have B3 := hide (And.intro h3 (B2.out.2.2.trans (b3.mono B2.out.2.2.size))); have D3 := hide b3; clear h3 b3)
          | (go_at_call 15; refine clone15 ax k cx (fun i => (X i : Int)) w1 (by omega) (HX.out.below B1.out.2) _ (fun a2 c2 w2 h2 b2 m2 => ?_); have B2 := hide (And.intro h2 (And.intro m2 (B1.out.2.trans (b2.mono B1.out.2.size)))); have D2 := hide b2; clear h2 b2 m2)
          | (go_at_call 14; refine clone14 aj J cj T wr (by omega) HT.out _ (fun a1 c1 w1 h1 b1 => ?_); have B1 := hide (And.intro h1 b1); clear h1 b1)
          | (go_at_call 17; refine zleave17 w5 J K k cnt made last l0 a1 a2 a3 a4 a5 c1 c2 c3 c4 c5 X T tq th jo hlast ((((B1.out.1.below D2.out).below D3.out).below D4.out).below D5.out) (((B2.out.1.below D3.out).below D4.out).below D5.out) ((B3.out.1.below D4.out).below D5.out) (B4.out.1.below D5.out) B5.out.1 HS.out hJ16 hK16 hq16 hl63 B2.out.2.1 _ (fun w6 r1 r2 r3 r4 d1 d2 d3 d4 g1 g2 g3 g4 g5 => ?_); have G := hide (And.intro g1 (And.intro g2 (And.intro g3 (And.intro g4 g5)))); clear g1 g2 g3 g4 g5))
        have hT6 := hide ((((((B1.out.1.below D2.out).below D3.out).below D4.out).below D5.out)).below (G.out.2.2.2.2))
        have hX6 := hide (((((B2.out.1.below D3.out).below D4.out).below D5.out)).below (G.out.2.2.2.2))
        have hA6 := hide (((B3.out.1.below D4.out).below D5.out).below (G.out.2.2.2.2))
        have hH6 := hide ((B4.out.1.below D5.out).below (G.out.2.2.2.2))
        have hO6 := hide (B5.out.1.below (G.out.2.2.2.2))
        have BB := hide (B5.out.2.trans (G.out.2.2.2.2.mono B5.out.2.size))
        clear B1 B2 B3 B4 B5 D2 D3 D4 D5 HT HX HA HH HO
        obtain ⟨cm, hcm, hcf, mkm⟩ := make_false K (by omega)
        go_loopg [24, 25] J (fun g t _ wr' => ∃ i : Nat, i + g = J ∧ t = .int .i64 i ∧ wr' = w6)
        case atStart => exact ⟨0, by omega, rfl, rfl⟩
        case round =>
          obtain ⟨i, hi, rfl, rfl⟩ := hrel
          by_cases hlt : i < J
          · obtain ⟨b1, o1, rfl, hb1, g1⟩ := hT6.out i hlt
            obtain ⟨b2, o2, rfl, hb2, g2⟩ := G.out.1 i hlt
            by_cases hl : l0 ≤ i
            · have e : tk T l0 last J i = last := by unfold tk; rw [if_pos ⟨hl, hlt⟩]
              rw [e] at g2
              have hl' : (l0 : Int) ≤ (i : Int) := by omega
              clear e
              go_wp2
              go_roundg (gk - 1)
              case rel => exact ⟨i + 1, by omega, by go_num, rfl⟩
              case measure => omega
            · have e : tk T l0 last J i = T i := by unfold tk; rw [if_neg (by omega)]
              rw [e] at g2
              have hl' : ¬ ((l0 : Int) ≤ (i : Int)) := by omega
              clear e
              go_wp2
              go_roundg (gk - 1)
              case rel => exact ⟨i + 1, by omega, by go_num, rfl⟩
              case measure => omega
          · obtain rfl : i = J := by omega
            obtain ⟨w6, rfl⟩ : ∃ w6, w6 = wr := ⟨_, rfl⟩
            obtain ⟨mb, emb⟩ : ∃ mb, w6.heap.size = mb := ⟨_, rfl⟩
            clear hi hlt
            go_wp2
            go_loopg [27] k (fun g t wr => ∃ i : Nat, i + g = k ∧ t = .int .i64 i ∧ BR wr mb K K (mem X i) ∧ Below w6.heap.size w6 wr)
            case atStart =>
              have hg : (w6.alloc (.cells cm 4)).heap[mb]? = some (.cells cm 4) := by rw [← emb]; exact heap_new _ _
              exact ⟨0, by omega, rfl, ⟨⟨_, hg, hcm⟩, fun x hx => (cell_of_heap hg _).trans (hcf x hx)⟩, (Below.refl _ _).alloc (Nat.le_refl _) _⟩
            case round =>
              obtain ⟨i, hi, rfl, hm, hb⟩ := hrel
              by_cases hlt : i < k
              · obtain ⟨b1, o1, rfl, hb1, g1⟩ := (hX6.out.below hb) i hlt
                have hx := HS.out i hlt
                have hx' : ((X i : Nat) : Int) < (K : Int) := by omega
                have fz := hm.row.fz
                obtain ⟨x1, d1⟩ := hm.row.ex (o := X i) hx
                have H1 := hide (And.intro hm hb)
                clear hm hb mkm
                go_wp2
                go_roundg (gk - 1)
                case rel =>
                  refine ⟨i + 1, by omega, by go_num, ⟨H1.out.1.row.setCell _ _, fun x hx2 => ?_⟩, H1.out.2.setCell (p := ⟨mb, X i, none⟩) (by rw [emb]; exact Nat.le_refl _) _⟩
                  by_cases e : x = X i
                  · subst e; rw [mem_same]; exact cell_same H1.out.1.row hx
                  · rw [mem_other X i e]; exact (cell_other (.inr e)).trans (H1.out.1.at' x hx2)
                case measure => omega
              · obtain rfl : i = k := by omega
                obtain ⟨w7, rfl⟩ : ∃ w7, w7 = wr := ⟨_, rfl⟩
                have H1 := hide (And.intro hm hb)
                clear hm hb hi hlt mkm
                go_wp2
                go_loopg [28, 29, 30, 31] K (fun g t _ _ _ wr => ∃ n : Nat, n + g = K ∧ t = .int .i64 n ∧ wr = w7)
                case atStart => exact ⟨0, by omega, rfl, rfl⟩
                case round =>
                  obtain ⟨n, hn, rfl, rfl⟩ := hrel
                  by_cases hlt : n < K
                  · obtain ⟨b1, o1, rfl, hb1, g1⟩ := (hA6.out.below H1.out.2) n hlt
                    obtain ⟨b2, o2, rfl, hb2, g2⟩ := (hH6.out.below H1.out.2) n hlt
                    obtain ⟨b3, o3, rfl, hb3, g3⟩ := (hO6.out.below H1.out.2) n hlt
                    obtain ⟨b4, o4, rfl, hb4, g4⟩ := (G.out.2.1.below H1.out.2) n hlt
                    obtain ⟨b5, o5, rfl, hb5, g5⟩ := (G.out.2.2.1.below H1.out.2) n hlt
                    obtain ⟨b6, o6, rfl, hb6, g6⟩ := (G.out.2.2.2.1.below H1.out.2) n hlt
                    have g7 := H1.out.1.at' n hlt
                    cases hm : mem X i n with
                    | false =>
                      have e4 : aK X tq made i n = tq n := by unfold aK; rw [if_neg (by rw [hm]; simp)]
                      have e5 : hK X th jo last i n = th n := by unfold hK; rw [if_neg (by rw [hm]; simp)]
                      have e6 : jK X jo i n = jo n := by unfold jK; rw [hm]; simp
                      rw [e4] at g4
                      rw [e5] at g5
                      rw [e6] at g6
                      rw [hm] at g7
                      clear e4 e5 e6 hm
                      go_wp2
                      go_roundg (gk - 1)
                      case rel => exact ⟨n + 1, by omega, by go_num, rfl⟩
                      case measure => omega
                    | true =>
                      have e4 : aK X tq made i n = made := by unfold aK; rw [if_pos hm]
                      have e6 : jK X jo i n = false := by unfold jK; rw [hm]; simp
                      rw [e4] at g4
                      rw [e6] at g6
                      rw [hm] at g7
                      cases hj : jo n with
                      | true =>
                        have e5 : hK X th jo last i n = last := by unfold hK; rw [if_pos (by rw [hm, hj]; rfl)]
                        rw [e5] at g5
                        rw [hj] at g3
                        clear e4 e5 e6 hm hj
                        go_wp2
                        go_roundg (gk - 1)
                        case rel => exact ⟨n + 1, by omega, by go_num, rfl⟩
                        case measure => omega
                      | false =>
                        have e5 : hK X th jo last i n = th n := by unfold hK; rw [if_neg (by rw [hj]; simp)]
                        rw [e5] at g5
                        rw [hj] at g3
                        clear e4 e5 e6 hm hj
                        go_wp2
                        go_roundg (gk - 1)
                        case rel => exact ⟨n + 1, by omega, by go_num, rfl⟩
                        case measure => omega
                  · obtain rfl : n = K := by omega
                    clear hn hlt
                    go_wp2
                    exact BB.out.trans (H1.out.2.mono BB.out.size)

end Go.Proofs.Qxb6605442a
