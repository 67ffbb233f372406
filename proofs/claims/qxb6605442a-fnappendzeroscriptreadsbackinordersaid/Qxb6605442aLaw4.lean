import Derived.Test.Qxb6605442aLaw3
namespace Go.Proofs.Qxb6605442a
open Go.RowKit
set_option linter.unusedVariables false
set_option linter.unusedSimpArgs false

/-- The script's length and numbers behind k calls. -/
def oN (n : Nat) (q : Nat → Int) : Nat → Nat
  | 0 => n
  | k + 1 => oN n q k + (pat (q k)).length
def oF (n : Nat) (f : Nat → Int) (q : Nat → Int) : Nat → Nat → Int
  | 0 => f
  | k + 1 => ext (oF n f q k) (oN n q k) (pat (q k))
theorem oN_le (n : Nat) (q : Nat → Int) : ∀ k, oN n q k ≤ n + 18 * k
  | 0 => Nat.le_refl _
  | k + 1 => by
    have h1 := oN_le n q k
    have h2 := (pat_pos (q k)).2
    show oN n q k + (pat (q k)).length ≤ _
    omega
theorem oN_mono (n : Nat) (q : Nat → Int) {k : Nat} : ∀ {v}, k ≤ v → oN n q k ≤ oN n q v
  | 0, h => by obtain rfl : k = 0 := by omega
               exact Nat.le_refl _
  | v + 1, h => by
    by_cases e : k = v + 1
    · subst e; exact Nat.le_refl _
    · exact Nat.le_trans (oN_mono n q (v := v) (by omega)) (Nat.le_add_right _ _)
theorem oF_old (n : Nat) (f q : Nat → Int) {k : Nat} : ∀ {v}, k ≤ v → ∀ i, i < oN n q k → oF n f q v i = oF n f q k i
  | 0, h, i, hi => by obtain rfl : k = 0 := by omega
                      rfl
  | v + 1, h, i, hi => by
    by_cases e : k = v + 1
    · subst e; rfl
    · have hv : i < oN n q v := Nat.lt_of_lt_of_le hi (oN_mono n q (by omega))
      show ext (oF n f q v) (oN n q v) (pat (q v)) i = _
      unfold ext
      rw [if_pos hv]
      exact oF_old n f q (v := v) (by omega) i hi
theorem oF_at (n : Nat) (f q : Nat → Int) {k v : Nat} (h : k < v) (j : Nat) (hj : j < (pat (q k)).length) : oF n f q v (oN n q k + j) = (pat (q k)).getD j 0 := by
  rw [oF_old n f q (k := k + 1) (v := v) h _ (by show _ < oN n q k + (pat (q k)).length; omega)]
  exact ext_at _ _ _ _

set_option maxHeartbeats 1000000 in
theorem bytes12 (a b : Option Addr) (n m capa capb : Nat) (w : World) (R : Ending → World → Prop) (h0 : n + m ≤ 1048576) (h : R (.returned (.bool true)) w) :
    Calls Try.prog 12 #[.slice a n capa, .slice b m capb] w R := by
  go_enter Try.func12, Try.ntmps12
  go_wp2
  exact h
set_option maxHeartbeats 1000000 in
theorem bytes12' (a b : Option Addr) (n m capa capb : Nat) (w : World) (R : Ending → World → Prop) (hn : n ≤ 9223372036854775807) (hm : m ≤ 9223372036854775807) (h0 : ¬ n + m ≤ 1048576) (h : R (.returned (.bool false)) w) :
    Calls Try.prog 12 #[.slice a n capa, .slice b m capb] w R := by
  by_cases h1 : n ≤ 1048576
  · by_cases h2 : m ≤ 1048576
    · go_enter Try.func12, Try.ntmps12
      go_wp2
      exact h
    · go_enter Try.func12, Try.ntmps12
      go_wp2
      exact h
  · go_enter Try.func12, Try.ntmps12
    go_wp2
    exact h

theorem grow4 {B : Nat} {w2 wr w' : World} {ao : Option Addr} {n cap : Nat} {xs : List Value} (hb : Below B w2 wr) (hB : B ≤ w2.heap.size) (ho : wr.ownsRow B 5 1 (.slice ao n cap) n xs) (hg : wr.grownBy w' (Value.slice ao n cap).ownBlock) : Below B w2 w' :=
  hb.grown hg (Nat.le_trans hB hb.size) fun k e => (own_blk ho e).1

set_option maxHeartbeats 2000000 in
set_option maxRecDepth 100000 in
theorem law4 (a : Option Addr) (n cap : Nat) (f : Nat → Int) (b : Option Addr) (v capb : Nat) (q : Nat → Int) (w : World) (hn63 : n ≤ 9223372036854775807) (hv63 : v ≤ 9223372036854775807) (hL : BtAt .u8 w a n f) (hQ : BtAt .u8 w b v q)
    (R : Ending → World → Prop) (hR : ∀ w', Below w.heap.size w w' → R (.returned (.bool true)) w') :
    Calls Try.prog 4 #[.slice a n cap, .slice b v capb] w R := by
  by_cases hnv : n + v ≤ 1048576
  · by_cases hs : n + 18 * v ≤ 2097152
    · have HL := hide hL
      have HQ := hide hQ
      clear hL hQ
      have hs' : (n : Int) + 18 * (v : Int) ≤ 2097152 := by omega
      go_enter Try.func4, Try.ntmps4
      go_wp2_with (first
        | (go_at_call 12; refine bytes12 a b n v cap capb w _ hnv ?_)
        | (go_at_call 7; refine clone7 a1 n cap1 f w2 (by omega) ((BtAt.of_own H1.out.1).below H2.out.2) _ (fun a3 cap3 w3 h3 b3 => ?_); have H3 := hide (And.intro h3 b3); clear h3 b3)
        | (go_at_call 7; refine clone7 b v capb q w1 (by omega) (HQ.out.below H1.out.2) _ (fun a2 cap2 w2 h2 b2 => ?_); have H2 := hide (And.intro h2 b2); clear h2 b2)
        | (go_at_call 7; refine clone7 a n cap f w (by omega) HL.out _ (fun a1 cap1 w1 h1 b1 => ?_); have H1 := hide (And.intro h1 b1); clear h1 b1))
      have HC : Hid (BtAt .u8 w2 a1 n f) := (BtAt.of_own H1.out.1).below H2.out.2
      have HV : Hid (BtAt .u8 w2 a2 v q) := BtAt.of_own H2.out.1
      have HB2 : Hid (Below w.heap.size w w2) := H1.out.2.trans (H2.out.2.mono H1.out.2.size)
      go_loopg [5, 6] v (fun g t5 t6 wr => ∃ (k : Nat) (ao : Option Addr) (cp : Nat), k + g = v ∧ t6 = .int .i64 k ∧ t5 = .slice ao (oN n q k) cp ∧ wr.ownsRow w2.heap.size 5 1 (.slice ao (oN n q k) cp) (oN n q k) (cs .u8 (oN n q k) (oF n f q k)) ∧ Below w2.heap.size w2 wr)
      case atStart => exact ⟨0, a3, cap3, by omega, rfl, rfl, H3.out.1, H3.out.2⟩
      case round =>
        obtain ⟨k, ao, cp, hk, rfl, rfl, ho, hb⟩ := hrel
        by_cases hlt : k < v
        · obtain ⟨b', o', rfl, hlb, hc⟩ := (HV.out.below hb) k hlt
          have HO := hide (And.intro ho hb)
          have hNk := oN_le n q k
          have e1 : Hid (oN n q (k + 1) = oN n q k + (pat (q k)).length) := rfl
          have e2 : Hid (oF n f q (k + 1) = ext (oF n f q k) (oN n q k) (pat (q k))) := rfl
          have A8 := hide (az8 (q k) w2.heap.size ao (oN n q k) cp (oF n f q k) wr (by omega) ho hb.size)
          clear ho hb hs'
          go_wp2_with (go_at_call 8; refine A8.out _ (fun g' cap' w' h1 h2 => ?_); have HN := hide (And.intro h1 h2); clear h1 h2)
          go_roundg (gk - 1)
          case rel => exact ⟨k + 1, some ⟨g', 0, none⟩, cap', by omega, by go_num, rfl, HN.out.1, grow4 HO.out.2 (Nat.le_refl _) HO.out.1 HN.out.2⟩
          case measure => omega
        · obtain rfl : k = v := by omega
          obtain ⟨w4, rfl⟩ : ∃ w4, w4 = wr := ⟨_, rfl⟩
          have HO := hide (And.intro ho hb)
          have hNk := oN_le n q k
          have hN0 : n ≤ oN n q k := oN_mono n q (k := 0) (Nat.zero_le _)
          have P9 := hide (prefix9 ao a1 (oN n q k) n cp cap1 (oF n f q k) f w4 (by omega) hN0 (BtAt.of_own ho) (HC.out.below hb) (fun j hj => oF_old n f q (k := 0) (Nat.zero_le _) j hj))
          have HL4 := hide (BtAt.of_own ho)
          clear ho hb hlt hk hs'
          go_wp2_with (go_at_call 9; refine P9.out _ (fun w5 b5 => ?_); have H5 := hide b5; clear b5)
          have HL5 := hide (HL4.out.below H5.out)
          have HV5 := hide ((HV.out.below HO.out.2).below H5.out)
          go_loopg [7, 8] k (fun g t7 t8 wr => ∃ i : Nat, i + g = k ∧ t7 = .int .i64 (oN n q i : Nat) ∧ t8 = .int .i64 i ∧ wr = w5)
          case atStart => exact ⟨0, by omega, rfl, rfl, rfl⟩
          case round =>
            obtain ⟨i, hi, rfl, rfl, rfl⟩ := hrel
            by_cases hlt : i < k
            · obtain ⟨b', o', rfl, hlb, hc⟩ := HV5.out i hlt
              have hNi : oN n q (i + 1) ≤ oN n q k := oN_mono n q hlt
              have A10 := hide (rz10 (q i) ao (oN n q k) cp (oN n q i) (oF n f q k) wr (by omega) HL5.out hNi (fun j hj => oF_at n f q hlt j hj))
              have A11 := hide (zeroType11 (q i) wr)
              go_wp2_with (first
                | (go_at_call 10; refine A10.out _ ?_)
                | (go_at_call 11; refine A11.out _ ?_))
              go_roundg (gk - 1)
              case rel => exact ⟨i + 1, by omega, by simp [oN], by go_num, rfl⟩
              case measure => omega
            · obtain rfl : i = k := by omega
              clear hlt hi
              go_wp2_with fail
              exact HB2.out.trans ((HO.out.2.trans (H5.out.mono HO.out.2.size)).mono HB2.out.size)
    · have hs' : ¬ ((n : Int) + 18 * (v : Int) ≤ 2097152) := by omega
      clear hL hQ
      go_enter Try.func4, Try.ntmps4
      go_wp2_with (go_at_call 12; refine bytes12 a b n v cap capb w _ hnv ?_)
      exact Below.refl _ _
  · clear hL hQ
    go_enter Try.func4, Try.ntmps4
    go_wp2_with (go_at_call 12; refine bytes12' a b n v cap capb w _ hn63 hv63 hnv ?_)
    exact Below.refl _ _

end Go.Proofs.Qxb6605442a
