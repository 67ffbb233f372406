import Derived.Test.Qxb6605442aLaw5
namespace Go.Proofs.Qxb6605442a
open Go.RowKit
set_option linter.unusedVariables false
set_option linter.unusedSimpArgs false

theorem BtAt.congr {k : IntKind} {w : World} {a : Option Addr} {n : Nat} {f g : Nat → Int} (h : BtAt k w a n f) (e : ∀ i, i < n → g i = f i) : BtAt k w a n g := fun i hi => by
  obtain ⟨b, o, e1, h1, h2⟩ := h i hi
  exact ⟨b, o, e1, h1, by rw [e i hi]; exact h2⟩

set_option maxHeartbeats 2000000 in
set_option maxRecDepth 100000 in
theorem out0 (cnt x made : Int) (aj ax at' ah ao : Option Addr) (J q K K1 K2 cj cx ct ch co : Nat) (w : World) (h1 : J ≤ 9223372036854775807) (h2 : q ≤ 9223372036854775807) (h3 : K ≤ 9223372036854775807) (h4 : K1 ≤ 9223372036854775807) (h5 : K2 ≤ 9223372036854775807) (m0 : ¬ J ≤ 65536)
    (R : Ending → World → Prop) (hR : ∀ w', Below w.heap.size w w' → R (.returned (.bool true)) w') :
    Calls Try.prog 5 #[.int .i64 cnt, .int .i64 x, .slice aj J cj, .slice ax q cx, .slice at' K ct, .slice ah K1 ch, .slice ao K2 co, .int .i64 made] w R := by
  go_enter Try.func5, Try.ntmps5
  go_wp2_with (go_at_call 13; refine bytes13 cnt x made aj ax at' ah ao J q K K1 K2 cj cx ct ch co w h1 h2 h3 h4 h5 _ (fun b => ?_); cases b)
  all_goals exact Below.refl _ _

set_option maxHeartbeats 2000000 in
set_option maxRecDepth 100000 in
theorem out1 (cnt x made : Int) (aj ax at' ah ao : Option Addr) (J q K K1 K2 cj cx ct ch co : Nat) (w : World) (h1 : J ≤ 9223372036854775807) (h2 : q ≤ 9223372036854775807) (h3 : K ≤ 9223372036854775807) (h4 : K1 ≤ 9223372036854775807) (h5 : K2 ≤ 9223372036854775807) (m0 : J ≤ 65536) (m1 : ¬ q ≤ 65536)
    (R : Ending → World → Prop) (hR : ∀ w', Below w.heap.size w w' → R (.returned (.bool true)) w') :
    Calls Try.prog 5 #[.int .i64 cnt, .int .i64 x, .slice aj J cj, .slice ax q cx, .slice at' K ct, .slice ah K1 ch, .slice ao K2 co, .int .i64 made] w R := by
  go_enter Try.func5, Try.ntmps5
  go_wp2_with (go_at_call 13; refine bytes13 cnt x made aj ax at' ah ao J q K K1 K2 cj cx ct ch co w h1 h2 h3 h4 h5 _ (fun b => ?_); cases b)
  all_goals exact Below.refl _ _

set_option maxHeartbeats 2000000 in
set_option maxRecDepth 100000 in
theorem out2 (cnt x made : Int) (aj ax at' ah ao : Option Addr) (J q K K1 K2 cj cx ct ch co : Nat) (w : World) (h1 : J ≤ 9223372036854775807) (h2 : q ≤ 9223372036854775807) (h3 : K ≤ 9223372036854775807) (h4 : K1 ≤ 9223372036854775807) (h5 : K2 ≤ 9223372036854775807) (m0 : J ≤ 65536) (m1 : q ≤ 65536) (m2 : ¬ K ≤ 65536)
    (R : Ending → World → Prop) (hR : ∀ w', Below w.heap.size w w' → R (.returned (.bool true)) w') :
    Calls Try.prog 5 #[.int .i64 cnt, .int .i64 x, .slice aj J cj, .slice ax q cx, .slice at' K ct, .slice ah K1 ch, .slice ao K2 co, .int .i64 made] w R := by
  go_enter Try.func5, Try.ntmps5
  go_wp2_with (go_at_call 13; refine bytes13 cnt x made aj ax at' ah ao J q K K1 K2 cj cx ct ch co w h1 h2 h3 h4 h5 _ (fun b => ?_); cases b)
  all_goals exact Below.refl _ _

set_option maxHeartbeats 2000000 in
set_option maxRecDepth 100000 in
theorem out3 (cnt x made : Int) (aj ax at' ah ao : Option Addr) (J q K K1 K2 cj cx ct ch co : Nat) (w : World) (h1 : J ≤ 9223372036854775807) (h2 : q ≤ 9223372036854775807) (h3 : K ≤ 9223372036854775807) (h4 : K1 ≤ 9223372036854775807) (h5 : K2 ≤ 9223372036854775807) (m0 : J ≤ 65536) (m1 : q ≤ 65536) (m2 : K ≤ 65536) (m3 : ¬ K1 ≤ 65536)
    (R : Ending → World → Prop) (hR : ∀ w', Below w.heap.size w w' → R (.returned (.bool true)) w') :
    Calls Try.prog 5 #[.int .i64 cnt, .int .i64 x, .slice aj J cj, .slice ax q cx, .slice at' K ct, .slice ah K1 ch, .slice ao K2 co, .int .i64 made] w R := by
  go_enter Try.func5, Try.ntmps5
  go_wp2_with (go_at_call 13; refine bytes13 cnt x made aj ax at' ah ao J q K K1 K2 cj cx ct ch co w h1 h2 h3 h4 h5 _ (fun b => ?_); cases b)
  all_goals exact Below.refl _ _

set_option maxHeartbeats 2000000 in
set_option maxRecDepth 100000 in
theorem out4 (cnt x made : Int) (aj ax at' ah ao : Option Addr) (J q K K1 K2 cj cx ct ch co : Nat) (w : World) (h1 : J ≤ 9223372036854775807) (h2 : q ≤ 9223372036854775807) (h3 : K ≤ 9223372036854775807) (h4 : K1 ≤ 9223372036854775807) (h5 : K2 ≤ 9223372036854775807) (m0 : J ≤ 65536) (m1 : q ≤ 65536) (m2 : K ≤ 65536) (m3 : K1 ≤ 65536) (m4 : ¬ K2 ≤ 65536)
    (R : Ending → World → Prop) (hR : ∀ w', Below w.heap.size w w' → R (.returned (.bool true)) w') :
    Calls Try.prog 5 #[.int .i64 cnt, .int .i64 x, .slice aj J cj, .slice ax q cx, .slice at' K ct, .slice ah K1 ch, .slice ao K2 co, .int .i64 made] w R := by
  go_enter Try.func5, Try.ntmps5
  go_wp2_with (go_at_call 13; refine bytes13 cnt x made aj ax at' ah ao J q K K1 K2 cj cx ct ch co w h1 h2 h3 h4 h5 _ (fun b => ?_); cases b)
  all_goals exact Below.refl _ _

set_option maxHeartbeats 2000000 in
set_option maxRecDepth 100000 in
theorem out5 (cnt x made : Int) (aj ax at' ah ao : Option Addr) (J q K K1 K2 cj cx ct ch co : Nat) (w : World) (h1 : J ≤ 9223372036854775807) (h2 : q ≤ 9223372036854775807) (h3 : K ≤ 9223372036854775807) (h4 : K1 ≤ 9223372036854775807) (h5 : K2 ≤ 9223372036854775807) (m0 : J ≤ 65536) (m1 : q ≤ 65536) (m2 : K ≤ 65536) (m3 : K1 ≤ 65536) (m4 : K2 ≤ 65536) (m5 : ¬ 8 * J + 4 * q + 8 * K + 8 * K1 + K2 ≤ 1048576)
    (R : Ending → World → Prop) (hR : ∀ w', Below w.heap.size w w' → R (.returned (.bool true)) w') :
    Calls Try.prog 5 #[.int .i64 cnt, .int .i64 x, .slice aj J cj, .slice ax q cx, .slice at' K ct, .slice ah K1 ch, .slice ao K2 co, .int .i64 made] w R := by
  have m5' : ¬ (8 * (J : Int) + 4 * (q : Int) + 8 * (K : Int) + 8 * (K1 : Int) + (K2 : Int) ≤ 1048576) := by omega
  go_enter Try.func5, Try.ntmps5
  go_wp2_with (go_at_call 13; refine bytes13 cnt x made aj ax at' ah ao J q K K1 K2 cj cx ct ch co w h1 h2 h3 h4 h5 _ (fun b => ?_); cases b)
  all_goals exact Below.refl _ _

set_option maxHeartbeats 2000000 in
set_option maxRecDepth 100000 in
theorem out6 (cnt x made : Int) (aj ax at' ah ao : Option Addr) (J q K K1 K2 cj cx ct ch co : Nat) (w : World) (h1 : J ≤ 9223372036854775807) (h2 : q ≤ 9223372036854775807) (h3 : K ≤ 9223372036854775807) (h4 : K1 ≤ 9223372036854775807) (h5 : K2 ≤ 9223372036854775807) (m0 : J ≤ 65536) (m1 : q ≤ 65536) (m2 : K ≤ 65536) (m3 : K1 ≤ 65536) (m4 : K2 ≤ 65536) (m5 : 8 * J + 4 * q + 8 * K + 8 * K1 + K2 ≤ 1048576) (m6 : x < 0)
    (R : Ending → World → Prop) (hR : ∀ w', Below w.heap.size w w' → R (.returned (.bool true)) w') :
    Calls Try.prog 5 #[.int .i64 cnt, .int .i64 x, .slice aj J cj, .slice ax q cx, .slice at' K ct, .slice ah K1 ch, .slice ao K2 co, .int .i64 made] w R := by
  have m5' : 8 * (J : Int) + 4 * (q : Int) + 8 * (K : Int) + 8 * (K1 : Int) + (K2 : Int) ≤ 1048576 := by omega
  go_enter Try.func5, Try.ntmps5
  go_wp2_with (go_at_call 13; refine bytes13 cnt x made aj ax at' ah ao J q K K1 K2 cj cx ct ch co w h1 h2 h3 h4 h5 _ (fun b => ?_); cases b)
  all_goals exact Below.refl _ _

set_option maxHeartbeats 2000000 in
set_option maxRecDepth 100000 in
theorem out7 (cnt x made : Int) (aj ax at' ah ao : Option Addr) (J q K K1 K2 cj cx ct ch co : Nat) (w : World) (h1 : J ≤ 9223372036854775807) (h2 : q ≤ 9223372036854775807) (h3 : K ≤ 9223372036854775807) (h4 : K1 ≤ 9223372036854775807) (h5 : K2 ≤ 9223372036854775807) (m0 : J ≤ 65536) (m1 : q ≤ 65536) (m2 : K ≤ 65536) (m3 : K1 ≤ 65536) (m4 : K2 ≤ 65536) (m5 : 8 * J + 4 * q + 8 * K + 8 * K1 + K2 ≤ 1048576) (m6 : 0 ≤ x) (m7 : K1 ≠ K)
    (R : Ending → World → Prop) (hR : ∀ w', Below w.heap.size w w' → R (.returned (.bool true)) w') :
    Calls Try.prog 5 #[.int .i64 cnt, .int .i64 x, .slice aj J cj, .slice ax q cx, .slice at' K ct, .slice ah K1 ch, .slice ao K2 co, .int .i64 made] w R := by
  have m5' : 8 * (J : Int) + 4 * (q : Int) + 8 * (K : Int) + 8 * (K1 : Int) + (K2 : Int) ≤ 1048576 := by omega
  have m7' : ¬ ((K1 : Int) = (K : Int)) := by omega
  go_enter Try.func5, Try.ntmps5
  go_wp2_with (go_at_call 13; refine bytes13 cnt x made aj ax at' ah ao J q K K1 K2 cj cx ct ch co w h1 h2 h3 h4 h5 _ (fun b => ?_); cases b)
  all_goals exact Below.refl _ _

set_option maxHeartbeats 2000000 in
set_option maxRecDepth 100000 in
theorem out8 (cnt x made : Int) (aj ax at' ah ao : Option Addr) (J q K K1 K2 cj cx ct ch co : Nat) (w : World) (h1 : J ≤ 9223372036854775807) (h2 : q ≤ 9223372036854775807) (h3 : K ≤ 9223372036854775807) (h4 : K1 ≤ 9223372036854775807) (h5 : K2 ≤ 9223372036854775807) (m0 : J ≤ 65536) (m1 : q ≤ 65536) (m2 : K ≤ 65536) (m3 : K1 ≤ 65536) (m4 : K2 ≤ 65536) (m5 : 8 * J + 4 * q + 8 * K + 8 * K1 + K2 ≤ 1048576) (m6 : 0 ≤ x) (m7 : K1 = K) (m8 : K2 ≠ K)
    (R : Ending → World → Prop) (hR : ∀ w', Below w.heap.size w w' → R (.returned (.bool true)) w') :
    Calls Try.prog 5 #[.int .i64 cnt, .int .i64 x, .slice aj J cj, .slice ax q cx, .slice at' K ct, .slice ah K1 ch, .slice ao K2 co, .int .i64 made] w R := by
  have m5' : 8 * (J : Int) + 4 * (q : Int) + 8 * (K : Int) + 8 * (K1 : Int) + (K2 : Int) ≤ 1048576 := by omega
  have m8' : ¬ ((K2 : Int) = (K : Int)) := by omega
  subst m7
  go_enter Try.func5, Try.ntmps5
  go_wp2_with (go_at_call 13; refine bytes13 cnt x made aj ax at' ah ao J q _ _ K2 cj cx ct ch co w h1 h2 h3 h4 h5 _ (fun b => ?_); cases b)
  all_goals exact Below.refl _ _

theorem law5 (cnt x made : Int) (aj ax at' ah ao : Option Addr) (J q K K1 K2 cj cx ct ch co : Nat) (w : World) (h1 : J ≤ 9223372036854775807) (h2 : q ≤ 9223372036854775807) (h3 : K ≤ 9223372036854775807) (h4 : K1 ≤ 9223372036854775807) (h5 : K2 ≤ 9223372036854775807)
    (X T tq th : Nat → Int) (jo : Nat → Bool) (hT : BtAt .i64 w aj J T) (hX : BtAt .u32 w ax q X) (hA : BtAt .i64 w at' K tq) (hH : BtAt .i64 w ah K1 th) (hO : BoAt w ao K2 jo) (hXr : ∀ i, i < q → 0 ≤ X i ∧ X i ≤ 4294967295) (hx : x ≤ 9223372036854775807)
    (R : Ending → World → Prop) (hR : ∀ w', Below w.heap.size w w' → R (.returned (.bool true)) w') :
    Calls Try.prog 5 #[.int .i64 cnt, .int .i64 x, .slice aj J cj, .slice ax q cx, .slice at' K ct, .slice ah K1 ch, .slice ao K2 co, .int .i64 made] w R := by
  by_cases m0 : J ≤ 65536
  case neg => exact out0 cnt x made aj ax at' ah ao J q K K1 K2 cj cx ct ch co w h1 h2 h3 h4 h5 m0 R hR
  by_cases m1 : q ≤ 65536
  case neg => exact out1 cnt x made aj ax at' ah ao J q K K1 K2 cj cx ct ch co w h1 h2 h3 h4 h5 m0 m1 R hR
  by_cases m2 : K ≤ 65536
  case neg => exact out2 cnt x made aj ax at' ah ao J q K K1 K2 cj cx ct ch co w h1 h2 h3 h4 h5 m0 m1 m2 R hR
  by_cases m3 : K1 ≤ 65536
  case neg => exact out3 cnt x made aj ax at' ah ao J q K K1 K2 cj cx ct ch co w h1 h2 h3 h4 h5 m0 m1 m2 m3 R hR
  by_cases m4 : K2 ≤ 65536
  case neg => exact out4 cnt x made aj ax at' ah ao J q K K1 K2 cj cx ct ch co w h1 h2 h3 h4 h5 m0 m1 m2 m3 m4 R hR
  by_cases m5 : 8 * J + 4 * q + 8 * K + 8 * K1 + K2 ≤ 1048576
  case neg => exact out5 cnt x made aj ax at' ah ao J q K K1 K2 cj cx ct ch co w h1 h2 h3 h4 h5 m0 m1 m2 m3 m4 m5 R hR
  by_cases m6 : 0 ≤ x
  case neg => exact out6 cnt x made aj ax at' ah ao J q K K1 K2 cj cx ct ch co w h1 h2 h3 h4 h5 m0 m1 m2 m3 m4 m5 (by omega) R hR
  by_cases m7 : K1 = K
  case neg => exact out7 cnt x made aj ax at' ah ao J q K K1 K2 cj cx ct ch co w h1 h2 h3 h4 h5 m0 m1 m2 m3 m4 m5 m6 m7 R hR
  by_cases m8 : K2 = K
  case neg => exact out8 cnt x made aj ax at' ah ao J q K K1 K2 cj cx ct ch co w h1 h2 h3 h4 h5 m0 m1 m2 m3 m4 m5 m6 m7 m8 R hR
  subst m7
  subst m8
  obtain ⟨l0, rfl⟩ : ∃ l0 : Nat, x = l0 := ⟨x.toNat, by omega⟩
  exact law5main cnt made l0 aj ax at' ah ao J q _ cj cx ct ch co (fun i => (X i).toNat) T tq th jo w hT (hX.congr (fun i hi => Int.toNat_of_nonneg (hXr i hi).1)) hA hH hO (fun i hi => by have := hXr i hi; omega) m0 m2 m1 (by omega) m5 R hR

end Go.Proofs.Qxb6605442a
