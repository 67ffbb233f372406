import Derived.Test.Qxb6605442aBase
namespace Go.Proofs.Qxb6605442a
open Go.RowKit
set_option linter.unusedVariables false
set_option linter.unusedSimpArgs false

/-- What appendZero lays behind the code. -/
def pat (vt : Int) : List Int :=
  if vt = 126 then [66, 0] else if vt = 125 then [67, 0, 0, 0, 0] else if vt = 124 then [68, 0, 0, 0, 0, 0, 0, 0, 0] else if vt = 123 then [253, 12, 0, 0, 0, 0, 0, 0, 0, 0, 0, 0, 0, 0, 0, 0, 0, 0]
  else if vt = 112 then [208, 112] else if vt = 111 then [208, 111] else [65, 0]
def zt (vt : Int) : Int := if vt = 126 ∨ vt = 125 ∨ vt = 124 ∨ vt = 123 ∨ vt = 112 ∨ vt = 111 then vt else 127

set_option maxHeartbeats 1000000 in
theorem zeroType11 (vt : Int) (w : World) (R : Ending → World → Prop) (hR : R (.returned (.int .u8 (zt vt))) w) : Calls Try.prog 11 #[.int .u8 vt] w R := by
  unfold zt at hR
  by_cases h1 : vt = 126
  · subst h1; simp at hR; go_enter Try.func11, Try.ntmps11; go_wp2; exact hR
  by_cases h2 : vt = 125
  · subst h2; simp at hR; go_enter Try.func11, Try.ntmps11; go_wp2; exact hR
  by_cases h3 : vt = 124
  · subst h3; simp at hR; go_enter Try.func11, Try.ntmps11; go_wp2; exact hR
  by_cases h4 : vt = 123
  · subst h4; simp at hR; go_enter Try.func11, Try.ntmps11; go_wp2; exact hR
  by_cases h5 : vt = 112
  · subst h5; simp at hR; go_enter Try.func11, Try.ntmps11; go_wp2; exact hR
  by_cases h6 : vt = 111
  · subst h6; simp at hR; go_enter Try.func11, Try.ntmps11; go_wp2; exact hR
  · rw [if_neg (by simp [h1, h2, h3, h4, h5, h6])] at hR
    go_enter Try.func11, Try.ntmps11; go_wp2; exact hR

set_option maxHeartbeats 1000000 in
theorem vec21 (w : World) (R : Ending → World → Prop) (hR : R (.returned (.int .u8 12)) w) : Calls Try.prog 21 #[.int .u32 12] w R := by
  go_enter Try.func21, Try.ntmps21
  go_wp2
  exact hR

set_option maxHeartbeats 1000000 in
theorem leb0 (a : Option Addr) (n cap at' mx : Nat) (f : Nat → Int) (w : World) (hn : n ≤ 67108864) (hmx : 0 < mx) (hm2 : mx ≤ 10) (hL : BtAt .u8 w a n f) (hat : at' < n) (h0 : f at' = 0)
    (R : Ending → World → Prop) (hR : R (.returned (.tuple #[.int .u64 0, .int .i64 ((at' : Int) + 1), .bool true])) w) :
    Calls Try.prog 19 #[.slice a n cap, .int .i64 at', .int .i64 mx] w R := by
  obtain ⟨b, o, rfl, hlt, hc⟩ := hL at' hat
  rw [h0] at hc
  clear hL h0 hlt
  have b1 : bits BinOp.and IntKind.u8 0 127 = 0 := by kernel_rfl
  have b2 : bits BinOp.and IntKind.u8 0 128 = 0 := by kernel_rfl
  have b3 : bits BinOp.or IntKind.u64 0 0 = 0 := by kernel_rfl
  go_enter Try.func19, Try.ntmps19
  go_wp2
  go_loopg [1, 9, 10, 11] 0 (fun g t1 t2 t3 t4 wr => t1 = .int .i64 at' ∧ t2 = .int .u64 0 ∧ t3 = .int .u64 0 ∧ t4 = .int .i64 0 ∧ wr = w)
  case atStart => exact ⟨rfl, rfl, rfl, rfl, rfl⟩
  case round =>
    obtain ⟨rfl, rfl, rfl, rfl, rfl⟩ := hrel
    go_wp2
    go_ret3
    exact hR

set_option maxHeartbeats 1000000 in
theorem leb12 (a : Option Addr) (n cap at' mx : Nat) (f : Nat → Int) (w : World) (hn : n ≤ 67108864) (hmx : 0 < mx) (hm2 : mx ≤ 10) (hL : BtAt .u8 w a n f) (hat : at' < n) (h0 : f at' = 12)
    (R : Ending → World → Prop) (hR : R (.returned (.tuple #[.int .u64 12, .int .i64 ((at' : Int) + 1), .bool true])) w) :
    Calls Try.prog 19 #[.slice a n cap, .int .i64 at', .int .i64 mx] w R := by
  obtain ⟨b, o, rfl, hlt, hc⟩ := hL at' hat
  rw [h0] at hc
  clear hL h0 hlt
  have b1 : bits BinOp.and IntKind.u8 12 127 = 12 := by kernel_rfl
  have b2 : bits BinOp.and IntKind.u8 12 128 = 0 := by kernel_rfl
  have b3 : bits BinOp.or IntKind.u64 0 12 = 12 := by kernel_rfl
  go_enter Try.func19, Try.ntmps19
  go_wp2
  go_loopg [1, 9, 10, 11] 0 (fun g t1 t2 t3 t4 wr => t1 = .int .i64 at' ∧ t2 = .int .u64 0 ∧ t3 = .int .u64 0 ∧ t4 = .int .i64 0 ∧ wr = w)
  case atStart => exact ⟨rfl, rfl, rfl, rfl, rfl⟩
  case round =>
    obtain ⟨rfl, rfl, rfl, rfl, rfl⟩ := hrel
    go_wp2
    go_ret3
    exact hR

set_option maxHeartbeats 1000000 in
theorem zeros20 (a : Option Addr) (n cap at' m : Nat) (f : Nat → Int) (w : World) (hn : n ≤ 67108864) (hL : BtAt .u8 w a n f) (hm : at' + m ≤ n) (h0 : ∀ j, j < m → f (at' + j) = 0)
    (R : Ending → World → Prop) (hR : R (.returned (.tuple #[.int .i64 ((at' : Int) + m), .bool true])) w) :
    Calls Try.prog 20 #[.slice a n cap, .int .i64 at', .int .i64 m] w R := by
  have hm2 : ¬ ((m : Int) > (n : Int) - at') := by omega
  go_enter Try.func20, Try.ntmps20
  go_wp2
  go_loopg [8] m (fun g t wr => ∃ k : Nat, k + g = m ∧ t = .int .i64 k ∧ wr = w)
  case atStart => exact ⟨0, by omega, rfl, rfl⟩
  case round =>
    obtain ⟨k, hk, rfl, rfl⟩ := hrel
    by_cases hlt : k < m
    · obtain ⟨b, o, rfl, hl, hc⟩ := hL (at' + k) (by omega)
      rw [h0 k hlt] at hc
      clear hL h0
      have hc' : wr.cell? ⟨b, o + (at' + k), none⟩ = some (.int .u8 0) := hc
      go_wp2
      go_roundg (gk - 1)
      case rel => exact ⟨k + 1, by omega, by go_num, rfl⟩
      case measure => omega
    · obtain rfl : k = m := by omega
      go_wp2
      exact hR

set_option maxHeartbeats 1000000 in
theorem prefix9 (a a' : Option Addr) (n n' cap cap' : Nat) (f f' : Nat → Int) (w : World) (hn : n ≤ 67108864) (hnn : n' ≤ n) (hL : BtAt .u8 w a n f) (hL' : BtAt .u8 w a' n' f') (h0 : ∀ j, j < n' → f j = f' j)
    (R : Ending → World → Prop) (hR : ∀ wd, Below w.heap.size w wd → R (.returned (.bool true)) wd) :
    Calls Try.prog 9 #[.slice a n cap, .slice a' n' cap'] w R := by
  go_enter Try.func9, Try.ntmps9
  go_wp2
  go_loopg [5] n' (fun g t wr => ∃ k : Nat, k + g = n' ∧ t = .int .i64 k ∧ Below w.heap.size w wr)
  case atStart => exact ⟨0, by omega, rfl, Below.refl _ _⟩
  case round =>
    obtain ⟨k, hk, rfl, hb⟩ := hrel
    by_cases hlt : k < n'
    · obtain ⟨b, o, rfl, hl, hc⟩ := (hL.below hb) k (by omega)
      obtain ⟨b', o', rfl, hl', hc'⟩ := (hL'.below hb) k (by omega)
      rw [h0 k hlt] at hc
      have HB := hide hb
      clear hL hL' h0 hb
      go_wp2
      go_quiet (fail)
      go_wp2
      go_roundg (gk - 1)
      case rel => exact ⟨k + 1, by omega, by go_num, Below_drewN (unhide HB) _⟩
      case measure => omega
    · obtain rfl : k = n' := by omega
      have HB := hide hb
      clear hL hL' h0 hb hlt
      go_wp2
      exact unhide HB

set_option maxHeartbeats 1000000 in
theorem bytes6 (a : Option Addr) (n cap : Nat) (vt : Int) (w : World) (R : Ending → World → Prop) (h0 : n ≤ 1048576) (h : R (.returned (.bool true)) w) :
    Calls Try.prog 6 #[.slice a n cap, .int .u8 vt] w R := by
  go_enter Try.func6, Try.ntmps6
  go_wp2
  exact h

set_option maxHeartbeats 1000000 in
theorem bytes6' (a : Option Addr) (n cap : Nat) (vt : Int) (w : World) (R : Ending → World → Prop) (hn : n ≤ 9223372036854775807) (h0 : ¬ n ≤ 1048576) (h : R (.returned (.bool false)) w) :
    Calls Try.prog 6 #[.slice a n cap, .int .u8 vt] w R := by
  go_enter Try.func6, Try.ntmps6
  go_wp2
  exact h

set_option maxHeartbeats 1000000 in
set_option maxRecDepth 100000 in
theorem rz127 (a : Option Addr) (n cap at' : Nat) (f : Nat → Int) (w : World) (hn : n ≤ 67108864) (hL : BtAt .u8 w a n f) (hat : at' + 2 ≤ n) (h0 : f at' = 65) (h1 : f (at' + 1) = 0)
    (R : Ending → World → Prop) (hR : R (.returned (.tuple #[.int .u8 127, .int .i64 ((at' : Int) + 2), .bool true])) w) :
    Calls Try.prog 10 #[.slice a n cap, .int .i64 at'] w R := by
  have hb : ∀ R : Ending → World → Prop, R (.returned (.tuple #[.int .u64 0, .int .i64 ((at' : Int) + 1 + 1), .bool true])) w → Calls Try.prog 19 #[.slice a n cap, .int .i64 ((at' : Int) + 1), .int .i64 5] w R := fun R hR =>
    leb0 a n cap (at' + 1) 5 f w hn (by omega) (by omega) hL (by omega) h1 R (by rw [show ((at' + 1 : Nat) : Int) = (at' : Int) + 1 from by omega]; exact hR)
  obtain ⟨b, o, rfl, hlt, hc⟩ := hL at' (by omega)
  rw [h0] at hc
  clear h1
  clear hL h0 hlt
  go_enter Try.func10, Try.ntmps10
  go_wp2_with (go_at_call 19; refine hb _ ?_)
  go_ret3
  rw [show (at' : Int) + 1 + 1 = at' + 2 from by omega]
  exact hR

set_option maxHeartbeats 1000000 in
set_option maxRecDepth 100000 in
theorem rz126 (a : Option Addr) (n cap at' : Nat) (f : Nat → Int) (w : World) (hn : n ≤ 67108864) (hL : BtAt .u8 w a n f) (hat : at' + 2 ≤ n) (h0 : f at' = 66) (h1 : f (at' + 1) = 0)
    (R : Ending → World → Prop) (hR : R (.returned (.tuple #[.int .u8 126, .int .i64 ((at' : Int) + 2), .bool true])) w) :
    Calls Try.prog 10 #[.slice a n cap, .int .i64 at'] w R := by
  have hb : ∀ R : Ending → World → Prop, R (.returned (.tuple #[.int .u64 0, .int .i64 ((at' : Int) + 1 + 1), .bool true])) w → Calls Try.prog 19 #[.slice a n cap, .int .i64 ((at' : Int) + 1), .int .i64 10] w R := fun R hR =>
    leb0 a n cap (at' + 1) 10 f w hn (by omega) (by omega) hL (by omega) h1 R (by rw [show ((at' + 1 : Nat) : Int) = (at' : Int) + 1 from by omega]; exact hR)
  obtain ⟨b, o, rfl, hlt, hc⟩ := hL at' (by omega)
  rw [h0] at hc
  clear h1
  clear hL h0 hlt
  go_enter Try.func10, Try.ntmps10
  go_wp2_with (go_at_call 19; refine hb _ ?_)
  go_ret3
  rw [show (at' : Int) + 1 + 1 = at' + 2 from by omega]
  exact hR

set_option maxHeartbeats 1000000 in
set_option maxRecDepth 100000 in
theorem rz125 (a : Option Addr) (n cap at' : Nat) (f : Nat → Int) (w : World) (hn : n ≤ 67108864) (hL : BtAt .u8 w a n f) (hat : at' + 5 ≤ n) (h0 : f at' = 67) (h1 : ∀ j, j < 4 → f (at' + 1 + j) = 0)
    (R : Ending → World → Prop) (hR : R (.returned (.tuple #[.int .u8 125, .int .i64 ((at' : Int) + 5), .bool true])) w) :
    Calls Try.prog 10 #[.slice a n cap, .int .i64 at'] w R := by
  have hb : ∀ R : Ending → World → Prop, R (.returned (.tuple #[.int .i64 ((at' : Int) + 1 + 4), .bool true])) w → Calls Try.prog 20 #[.slice a n cap, .int .i64 ((at' : Int) + 1), .int .i64 4] w R := fun R hR =>
    zeros20 a n cap (at' + 1) 4 f w hn hL (by omega) h1 R (by rw [show ((at' + 1 : Nat) : Int) = (at' : Int) + 1 from by omega]; exact hR)
  obtain ⟨b, o, rfl, hlt, hc⟩ := hL at' (by omega)
  rw [h0] at hc
  clear h1
  clear hL h0 hlt
  go_enter Try.func10, Try.ntmps10
  go_wp2_with (go_at_call 20; refine hb _ ?_)
  go_ret3
  rw [show (at' : Int) + 1 + 4 = at' + 5 from by omega]
  exact hR

set_option maxHeartbeats 1000000 in
set_option maxRecDepth 100000 in
theorem rz124 (a : Option Addr) (n cap at' : Nat) (f : Nat → Int) (w : World) (hn : n ≤ 67108864) (hL : BtAt .u8 w a n f) (hat : at' + 9 ≤ n) (h0 : f at' = 68) (h1 : ∀ j, j < 8 → f (at' + 1 + j) = 0)
    (R : Ending → World → Prop) (hR : R (.returned (.tuple #[.int .u8 124, .int .i64 ((at' : Int) + 9), .bool true])) w) :
    Calls Try.prog 10 #[.slice a n cap, .int .i64 at'] w R := by
  have hb : ∀ R : Ending → World → Prop, R (.returned (.tuple #[.int .i64 ((at' : Int) + 1 + 8), .bool true])) w → Calls Try.prog 20 #[.slice a n cap, .int .i64 ((at' : Int) + 1), .int .i64 8] w R := fun R hR =>
    zeros20 a n cap (at' + 1) 8 f w hn hL (by omega) h1 R (by rw [show ((at' + 1 : Nat) : Int) = (at' : Int) + 1 from by omega]; exact hR)
  obtain ⟨b, o, rfl, hlt, hc⟩ := hL at' (by omega)
  rw [h0] at hc
  clear h1
  clear hL h0 hlt
  go_enter Try.func10, Try.ntmps10
  go_wp2_with (go_at_call 20; refine hb _ ?_)
  go_ret3
  rw [show (at' : Int) + 1 + 8 = at' + 9 from by omega]
  exact hR

set_option maxHeartbeats 1000000 in
set_option maxRecDepth 100000 in
theorem rz123 (a : Option Addr) (n cap at' : Nat) (f : Nat → Int) (w : World) (hn : n ≤ 67108864) (hL : BtAt .u8 w a n f) (hat : at' + 18 ≤ n) (h0 : f at' = 253) (h1 : f (at' + 1) = 12) (h2 : ∀ j, j < 16 → f (at' + 2 + j) = 0)
    (R : Ending → World → Prop) (hR : R (.returned (.tuple #[.int .u8 123, .int .i64 ((at' : Int) + 18), .bool true])) w) :
    Calls Try.prog 10 #[.slice a n cap, .int .i64 at'] w R := by
  have hb : ∀ R : Ending → World → Prop, R (.returned (.tuple #[.int .u64 12, .int .i64 ((at' : Int) + 1 + 1), .bool true])) w → Calls Try.prog 19 #[.slice a n cap, .int .i64 ((at' : Int) + 1), .int .i64 5] w R := fun R hR =>
    leb12 a n cap (at' + 1) 5 f w hn (by omega) (by omega) hL (by omega) h1 R (by rw [show ((at' + 1 : Nat) : Int) = (at' : Int) + 1 from by omega]; exact hR)
  have hz : ∀ R : Ending → World → Prop, R (.returned (.tuple #[.int .i64 ((at' : Int) + 1 + 1 + 16), .bool true])) w → Calls Try.prog 20 #[.slice a n cap, .int .i64 ((at' : Int) + 1 + 1), .int .i64 16] w R := fun R hR => by
    have e : ((at' : Int) + 1 + 1) = ((at' + 2 : Nat) : Int) := by omega
    rw [e] at hR ⊢
    exact zeros20 a n cap (at' + 2) 16 f w hn hL (by omega) h2 R hR
  have hv := fun R hR => vec21 w R hR
  obtain ⟨b, o, rfl, hlt, hc⟩ := hL at' (by omega)
  rw [h0] at hc
  clear h1 h2
  clear hL h0 hlt
  go_enter Try.func10, Try.ntmps10
  go_wp2_with (first | (go_at_call 19; refine hb _ ?_) | (go_at_call 20; refine hz _ ?_) | (go_at_call 21; refine hv _ ?_))
  go_ret3
  rw [show (at' : Int) + 1 + 1 + 16 = at' + 18 from by omega]
  exact hR

set_option maxHeartbeats 1000000 in
set_option maxRecDepth 100000 in
theorem rz112 (a : Option Addr) (n cap at' : Nat) (f : Nat → Int) (w : World) (hn : n ≤ 67108864) (hL : BtAt .u8 w a n f) (hat : at' + 2 ≤ n) (h0 : f at' = 208) (h1 : f (at' + 1) = 112)
    (R : Ending → World → Prop) (hR : R (.returned (.tuple #[.int .u8 112, .int .i64 ((at' : Int) + 2), .bool true])) w) :
    Calls Try.prog 10 #[.slice a n cap, .int .i64 at'] w R := by
  obtain ⟨b1, o1, e1, hlt1, hc1⟩ := hL (at' + 1) (by omega)
  rw [h1] at hc1
  obtain ⟨b, o, rfl, hlt, hc⟩ := hL at' (by omega)
  rw [h0] at hc
  cases e1
  clear hL h0 hlt h1
  go_enter Try.func10, Try.ntmps10
  go_wp2
  go_ret3
  rw [show (at' : Int) + 1 + 1 = at' + 2 from by omega]
  exact hR

set_option maxHeartbeats 1000000 in
set_option maxRecDepth 100000 in
theorem rz111 (a : Option Addr) (n cap at' : Nat) (f : Nat → Int) (w : World) (hn : n ≤ 67108864) (hL : BtAt .u8 w a n f) (hat : at' + 2 ≤ n) (h0 : f at' = 208) (h1 : f (at' + 1) = 111)
    (R : Ending → World → Prop) (hR : R (.returned (.tuple #[.int .u8 111, .int .i64 ((at' : Int) + 2), .bool true])) w) :
    Calls Try.prog 10 #[.slice a n cap, .int .i64 at'] w R := by
  obtain ⟨b1, o1, e1, hlt1, hc1⟩ := hL (at' + 1) (by omega)
  rw [h1] at hc1
  obtain ⟨b, o, rfl, hlt, hc⟩ := hL at' (by omega)
  rw [h0] at hc
  cases e1
  clear hL h0 hlt h1
  go_enter Try.func10, Try.ntmps10
  go_wp2
  go_ret3
  rw [show (at' : Int) + 1 + 1 = at' + 2 from by omega]
  exact hR

end Go.Proofs.Qxb6605442a
