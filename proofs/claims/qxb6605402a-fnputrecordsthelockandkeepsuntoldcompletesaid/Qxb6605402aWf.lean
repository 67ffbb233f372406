import Derived.Test.Qxb6605402aPure
namespace Go.Proofs.Qxb6605402a
open Go.RowKit
set_option linter.unusedVariables false
set_option linter.unusedSimpArgs false

set_option maxRecDepth 100000 in
set_option maxHeartbeats 2000000 in
/-- zzWellFormed -/
theorem wellFormed9 (cs : Array Value) (I : Nat → Lk) (hI : IpAt cs I) (x : Int) (a : Option Addr) (L : Nat → Lk) (n cap : Nat) (hn : n ≤ 4096) (a2 : Option Addr) (u cap2 : Nat) (hu : u ≤ 4096) (U : Nat → Int) (w : World) (hL : OtAt w a n L) (hU : UtAt w a2 u U)
    (R : Ending → World → Prop) (hR : ∀ (b : Bool) w', (b = true → WF I x L n U u) → Below w.heap.size w w' → R (.returned (.bool b)) w') :
    Calls Try.prog 9 #[.agg cs, .int .i64 x, .slice a n cap, .slice a2 u cap2] w R := by
  by_cases h0 : x < 0
  · go_enter Try.func9, Try.ntmps9
    go_wp2
    exact hR _ _ (by simp) ((Below.refl _ _).alloc (Nat.le_refl _) _)
  by_cases h4 : 4 < x
  · go_enter Try.func9, Try.ntmps9
    go_wp2
    exact hR _ _ (by simp) ((Below.refl _ _).alloc (Nat.le_refl _) _)
  obtain ⟨N, rfl⟩ : ∃ N : Nat, x = N := ⟨x.toNat, by omega⟩
  have hN : N ≤ 4 := by omega
  clear h0 h4
  go_enter Try.func9, Try.ntmps9
  go_wp2
  go_loopg [9] N (fun g i wr => ∃ k : Nat, k + g = N ∧ i = .int .i64 k ∧ Hid ((∀ i j : Nat, i < k → i < j → j < N → (I i).res ≠ (I j).res) ∧ (∀ i j : Nat, i < k → j < n → (I i).res ≠ (L j).res)) ∧ Below (w.heap.size + 1) (w.alloc (.cells cs 27)) wr)
  case atStart => exact ⟨0, by omega, rfl, ⟨fun i j h => by omega, fun i j h => by omega⟩, Below.refl _ _⟩
  case round =>
    obtain ⟨k, hk, rfl, HQ, hb⟩ := hrel
    have HB : Hid (Below (w.heap.size + 1) (w.alloc (.cells cs 27)) wr) := hb
    clear hb
    by_cases hlt : k < N
    · go_wp2
      go_loopg [10] (N - (k + 1)) (fun g i wr => ∃ j : Nat, j + g = N ∧ k < j ∧ i = .int .i64 j ∧ Hid (∀ i : Nat, k < i → i < j → (I k).res ≠ (I i).res) ∧ Below (w.heap.size + 1) (w.alloc (.cells cs 27)) wr)
      case atStart => exact ⟨k + 1, by omega, by omega, by go_num, fun i h1 h2 => by omega, HB.out⟩
      case round =>
        clear HB
        obtain ⟨j, hj, hkj, rfl, HJ, hb⟩ := hrel
        have HB : Hid (Below (w.heap.size + 1) (w.alloc (.cells cs 27)) wr) := hb
        by_cases hlj : j < N
        · have c0 := (hI.at (blk hb (heap_new _ _) (by omega)) (show k < 4 by omega)).c0
          have c1 := (hI.at (blk hb (heap_new _ _) (by omega)) (show j < 4 by omega)).c0
          clear hb hL
          have g1 : (k : Int) < 4 := by omega
          have g2 : (j : Int) < 4 := by omega
          by_cases e : (I k).res = (I j).res
          · have q1 := strT e
            clear e
            go_wp2
            go_quiet (fail)
            go_wp2
            exact hR _ _ (by simp) (Below_drewN (boxBelow HB.out) _)
          · have q1 := strF e
            have HE : Hid ((I k).res ≠ (I j).res) := e
            clear e
            go_wp2
            go_quiet (fail)
            go_wp2
            go_roundg (gk - 1)
            case rel => exact ⟨j + 1, by omega, by omega, by go_num, fun i h1 h2 => if h : i = j then h ▸ HE.out else HJ.out i h1 (by omega), Below_drewN HB.out _⟩
            case measure => omega
        · clear hb
          obtain rfl : j = N := by omega
          go_wp2
          go_loopg [11] n (fun g i wr => ∃ j : Nat, j + g = n ∧ i = .int .i64 j ∧ Hid (∀ i : Nat, i < j → (I k).res ≠ (L i).res) ∧ Below (w.heap.size + 1) (w.alloc (.cells cs 27)) wr)
          case atStart => exact ⟨0, by omega, rfl, fun i h1 => by omega, HB.out⟩
          case round =>
            clear HB
            obtain ⟨m, hm, rfl, HM, hb⟩ := hrel
            have HB : Hid (Below (w.heap.size + 1) (w.alloc (.cells cs 27)) wr) := hb
            by_cases hlm : m < n
            · have c0 := (hI.at (blk hb (heap_new _ _) (by omega)) (show k < 4 by omega)).c0
              obtain ⟨b, o, rfl, _, hc⟩ := (hL.below (boxBelow hb)) m hlm
              have c1 := hc.c0
              clear hb hL hc
              have g1 : (k : Int) < 4 := by omega
              have g2 : (m : Int) < n := by omega
              by_cases e : (I k).res = (L m).res
              · have q1 := strT e
                clear e
                go_wp2
                go_quiet (fail)
                go_wp2
                exact hR _ _ (by simp) (Below_drewN (boxBelow HB.out) _)
              · have q1 := strF e
                have HE : Hid ((I k).res ≠ (L m).res) := e
                clear e
                go_wp2
                go_quiet (fail)
                go_wp2
                go_roundg (gk - 1)
                case rel => exact ⟨m + 1, by omega, by go_num, fun i h1 => if h : i = m then h ▸ HE.out else HM.out i (by omega), Below_drewN HB.out _⟩
                case measure => omega
            · clear hb
              obtain rfl : m = n := by omega
              go_wp2
              go_roundg (j - (k + 1))
              case rel =>
                refine ⟨k + 1, by omega, by go_num, ⟨fun i j h1 h2 h3 => ?_, fun i j h1 h2 => ?_⟩, HB.out⟩
                · by_cases h : i = k
                  · subst h; exact HJ.out j h2 h3
                  · exact HQ.out.1 i j (by omega) h2 h3
                · by_cases h : i = k
                  · subst h; exact HM.out j h2
                  · exact HQ.out.2 i j (by omega) h2
              case measure => omega
    · obtain rfl : k = N := by omega
      clear hk hlt
      go_wp2
      go_loopg [12] n (fun g i wr => ∃ k : Nat, k + g = n ∧ i = .int .i64 k ∧ Hid (∀ i j : Nat, i < k → i < j → j < n → (L i).res ≠ (L j).res) ∧ Below (w.heap.size + 1) (w.alloc (.cells cs 27)) wr)
      case atStart => exact ⟨0, by omega, rfl, fun i j h => by omega, HB.out⟩
      case round =>
        clear HB
        obtain ⟨p, hp, rfl, HP, hb⟩ := hrel
        have HB : Hid (Below (w.heap.size + 1) (w.alloc (.cells cs 27)) wr) := hb
        clear hb
        by_cases hlp : p < n
        · go_wp2
          go_loopg [13] (n - (p + 1)) (fun g i wr => ∃ j : Nat, j + g = n ∧ p < j ∧ i = .int .i64 j ∧ Hid (∀ i : Nat, p < i → i < j → (L p).res ≠ (L i).res) ∧ Below (w.heap.size + 1) (w.alloc (.cells cs 27)) wr)
          case atStart => exact ⟨p + 1, by omega, by omega, by go_num, fun i h1 h2 => by omega, HB.out⟩
          case round =>
            clear HB
            obtain ⟨j, hj, hkj, rfl, HJ, hb⟩ := hrel
            have HB : Hid (Below (w.heap.size + 1) (w.alloc (.cells cs 27)) wr) := hb
            by_cases hlj : j < n
            · obtain ⟨b, o, rfl, _, hc⟩ := (hL.below (boxBelow hb)) p hlp
              obtain ⟨b', o', e', _, hc'⟩ := (hL.below (boxBelow hb)) j hlj
              simp only [Option.some.injEq, Addr.mk.injEq, and_true] at e'
              obtain ⟨rfl, rfl⟩ := e'
              have c0 := hc.c0
              have c1 := hc'.c0
              clear hb hL hc hc'
              have g1 : (p : Int) < n := by omega
              have g2 : (j : Int) < n := by omega
              by_cases e : (L p).res = (L j).res
              · have q1 := strT e
                clear e
                go_wp2
                go_quiet (fail)
                go_wp2
                exact hR _ _ (by simp) (Below_drewN (boxBelow HB.out) _)
              · have q1 := strF e
                have HE : Hid ((L p).res ≠ (L j).res) := e
                clear e
                go_wp2
                go_quiet (fail)
                go_wp2
                go_roundg (gk - 1)
                case rel => exact ⟨j + 1, by omega, by omega, by go_num, fun i h1 h2 => if h : i = j then h ▸ HE.out else HJ.out i h1 (by omega), Below_drewN HB.out _⟩
                case measure => omega
            · clear hb
              obtain rfl : j = n := by omega
              go_wp2
              go_roundg (j - (p + 1))
              case rel =>
                refine ⟨p + 1, by omega, by go_num, fun i m h1 h2 h3 => ?_, HB.out⟩
                by_cases h : i = p
                · subst h; exact HJ.out m h2 h3
                · exact HP.out i m (by omega) h2 h3
              case measure => omega
        · obtain rfl : p = n := by omega
          clear hp hlp
          go_wp2
          go_loopg [14] u (fun g i wr => ∃ k : Nat, k + g = u ∧ i = .int .i64 k ∧ Hid ((∀ i : Nat, i < k → 0 ≤ U i ∧ U i < p) ∧ ∀ i j : Nat, i < k → i < j → j < u → U i ≠ U j) ∧ Below (w.heap.size + 1) (w.alloc (.cells cs 27)) wr)
          case atStart => exact ⟨0, by omega, rfl, ⟨fun i h => by omega, fun i j h => by omega⟩, HB.out⟩
          case round =>
            clear HB
            obtain ⟨q, hq, rfl, HX, hb⟩ := hrel
            have HB : Hid (Below (w.heap.size + 1) (w.alloc (.cells cs 27)) wr) := hb
            by_cases hlq : q < u
            · obtain ⟨b, o, rfl, _, hc⟩ := (hU.below (boxBelow hb)) q hlq
              clear hb
              by_cases e1 : U q < 0
              · have d1 : decide (U q < 0) = true := by simp [e1]
                clear hL hU
                go_wp2
                exact hR _ _ (by simp) (boxBelow HB.out)
              · have d1 : decide (U q < 0) = false := by simp; omega
                by_cases e2 : (p : Int) ≤ U q
                · clear hL hU
                  go_wp2
                  exact hR _ _ (by simp) (boxBelow HB.out)
                · go_wp2
                  go_loopg [15] (u - (q + 1)) (fun g i wr => ∃ j : Nat, j + g = u ∧ q < j ∧ i = .int .i64 j ∧ Hid (∀ i : Nat, q < i → i < j → U q ≠ U i) ∧ Below (w.heap.size + 1) (w.alloc (.cells cs 27)) wr)
                  case atStart => exact ⟨q + 1, by omega, by omega, by go_num, fun i h1 h2 => by omega, HB.out⟩
                  case round =>
                    clear HB hc
                    obtain ⟨j, hj, hkj, rfl, HJ, hb⟩ := hrel
                    have HB : Hid (Below (w.heap.size + 1) (w.alloc (.cells cs 27)) wr) := hb
                    by_cases hlj : j < u
                    · obtain ⟨b1, o1, e3, _, hc⟩ := (hU.below (boxBelow hb)) q hlq
                      obtain ⟨b', o', e', _, hc'⟩ := (hU.below (boxBelow hb)) j hlj
                      simp only [Option.some.injEq, Addr.mk.injEq, and_true] at e' e3
                      obtain ⟨rfl, rfl⟩ := e'
                      obtain ⟨rfl, rfl⟩ := e3
                      clear hb hL hU
                      have g1 : (q : Int) < u := by omega
                      have g2 : (j : Int) < u := by omega
                      by_cases e : U q = U j
                      · have q1 : (U q == U j) = true := by simp [e]
                        clear e
                        go_wp2
                        go_quiet (fail)
                        go_wp2
                        exact hR _ _ (by simp) (Below_drewN (boxBelow HB.out) _)
                      · have q1 : (U q == U j) = false := by simp [e]
                        have HE : Hid (U q ≠ U j) := e
                        clear e
                        go_wp2
                        go_quiet (fail)
                        go_wp2
                        go_roundg (gk - 1)
                        case rel => exact ⟨j + 1, by omega, by omega, by go_num, fun i h1 h2 => if h : i = j then h ▸ HE.out else HJ.out i h1 (by omega), Below_drewN HB.out _⟩
                        case measure => omega
                    · clear hb
                      obtain rfl : j = u := by omega
                      go_wp2
                      go_roundg (j - (q + 1))
                      case rel =>
                        refine ⟨q + 1, by omega, by go_num, ⟨fun i h1 => ?_, fun i m h1 h2 h3 => ?_⟩, HB.out⟩
                        · by_cases h : i = q
                          · subst h; omega
                          · exact HX.out.1 i (by omega)
                        · by_cases h : i = q
                          · subst h; exact HJ.out m h2 h3
                          · exact HX.out.2 i m (by omega) h2 h3
                      case measure => omega
            · clear hb
              obtain rfl : q = u := by omega
              clear hq hlq
              go_wp2
              go_loopg [16] p (fun g i wr => ∃ k : Nat, k + g = p ∧ i = .int .i64 k ∧ Hid (∀ i : Nat, i < k → (L i).hd.loc = true → (L i).hd.tol = false → ∃ k : Nat, k < q ∧ U k = i) ∧ Below (w.heap.size + 1) (w.alloc (.cells cs 27)) wr)
              case atStart => exact ⟨0, by omega, rfl, fun i h => by omega, HB.out⟩
              case round =>
                clear HB
                obtain ⟨m, hm, rfl, HM, hb⟩ := hrel
                have HB : Hid (Below (w.heap.size + 1) (w.alloc (.cells cs 27)) wr) := hb
                by_cases hlm : m < p
                · obtain ⟨b, o, rfl, _, hc⟩ := (hL.below (boxBelow hb)) m hlm
                  have c0 := hc.c4
                  have c1 := hc.c5
                  have hUr := hU.below (boxBelow hb)
                  clear hb hL hc hU
                  generalize hl : (L m).hd.loc = l at *
                  generalize ht : (L m).hd.tol = t at *
                  have Hl : Hid ((L m).hd.loc = l) := hl
                  have Ht : Hid ((L m).hd.tol = t) := ht
                  clear hl ht
                  have fin : ∀ wr', Below (w.heap.size + 1) (w.alloc (.cells cs 27)) wr' → (l = true → t = false → ∃ k : Nat, k < q ∧ U k = m) → ∃ k : Nat, k + (gk - 1) = p ∧ Value.int .i64 ((m : Int) + 1) = .int .i64 k ∧ Hid (∀ i : Nat, i < k → (L i).hd.loc = true → (L i).hd.tol = false → ∃ k : Nat, k < q ∧ U k = i) ∧ Below (w.heap.size + 1) (w.alloc (.cells cs 27)) wr' := fun wr' hw hf =>
                    ⟨m + 1, by omega, by go_num, fun i h1 h2 h3 => if h : i = m then by subst h; exact hf (Hl.out ▸ h2) (Ht.out ▸ h3) else HM.out i (by omega) h2 h3, hw⟩
                  have FIN := hide fin
                  clear fin
                  cases l
                  · go_wp2
                    go_roundg (gk - 1)
                    case rel => exact (unhide FIN) _ HB.out (fun h => by cases h)
                    case measure => omega
                  · cases t
                    · go_wp2_with (go_at_call 28; refine listed28 _ _ _ U _ _ hu hUr _ (fun b h1 h2 => ?_))
                      · exact hR _ _ (by simp) (boxBelow HB.out)
                      · rename_i hbb
                        go_roundg (gk - 1)
                        case rel => exact (unhide FIN) _ HB.out (fun _ _ => h1 (by simpa using hbb))
                        case measure => omega
                    · go_wp2
                      go_roundg (gk - 1)
                      case rel => exact (unhide FIN) _ HB.out (fun _ h => by cases h)
                      case measure => omega
                · clear hb
                  obtain rfl : m = p := by omega
                  go_wp2
                  exact hR _ _ (fun _ => ⟨by omega, by omega, fun i j h1 h2 => HQ.out.1 i j (by omega) h1 (by omega), fun i j h1 h2 => HQ.out.2 i j (by omega) h2, fun i j h1 h2 => HP.out i j (by omega) h1 h2, fun i h1 => HX.out.1 i h1, fun i j h1 h2 => HX.out.2 i j (by omega) h1 h2, fun i h1 => HM.out i h1⟩) (boxBelow HB.out)

end Go.Proofs.Qxb6605402a
