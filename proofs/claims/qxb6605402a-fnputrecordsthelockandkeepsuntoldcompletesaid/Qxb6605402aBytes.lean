import Derived.Test.Qxb6605402aBase
namespace Go.Proofs.Qxb6605402a
open Go.RowKit
set_option linter.unusedVariables false
set_option linter.unusedSimpArgs false
theorem heap_new2 (w : World) (o o2 : Obj) : ((w.alloc o).alloc o2).heap[w.heap.size + 1]? = some o2 := by
  have := heap_new (w.alloc o) o2
  rwa [World.size_alloc] at this

set_option maxHeartbeats 1000000 in
theorem bytes7 (cs : Array Value) (I : Nat → Lk) (hI : IpAt cs I) (x : Int) (a : Option Addr) (L : Nat → Lk) (n cap : Nat) (a2 : Option Addr) (n2 cap2 : Nat) (w : World) (hL : OtAt w a n L)
    (R : Ending → World → Prop) (hR : ∀ b w', Below w.heap.size w w' → R (.returned (.bool b)) w') :
    Calls Try.prog 7 #[.agg cs, .int .i64 x, .slice a n cap, .slice a2 n2 cap2] w R := by
  go_enter Try.func7, Try.ntmps7
  go_wp2
  go_loopg [9, 10] 4 (fun g tot i wr => ∃ (k : Nat) (t : Int), k + g = 4 ∧ tot = .int .i64 t ∧ i = .int .i64 k ∧ Below (w.heap.size + 1) (w.alloc (.cells cs 27)) wr)
  case atStart => exact ⟨0, _, rfl, rfl, rfl, Below.refl _ _⟩
  case round =>
    obtain ⟨k, t, hk, rfl, rfl, hb⟩ := hrel
    by_cases hlt : k < 4
    · have hc := hI.at (blk hb (heap_new _ _) (by omega)) hlt
      have c0 := hc.c0
      have c1 := hc.c1
      have HB : Hid (Below (w.heap.size + 1) (w.alloc (.cells cs 27)) wr) := hb
      clear hc hb
      go_wp2
      any_goals (exact boxBelow HB.out)
      go_roundg (gk - 1)
      case rel => exact ⟨k + 1, _, by omega, rfl, by go_num, HB.out⟩
      case measure => omega
    · have HB : Hid (Below (w.heap.size + 1) (w.alloc (.cells cs 27)) wr) := hb
      clear hb
      go_wp2
      · exact boxBelow HB.out
      · exact boxBelow HB.out
      have hn : (n : Int) ≤ 1048576 := by assumption
      go_loopg [9, 11] n (fun g tot i wr => ∃ (k : Nat) (t : Int), k + g = n ∧ tot = .int .i64 t ∧ i = .int .i64 k ∧ Below (w.heap.size + 1) (w.alloc (.cells cs 27)) wr)
      case atStart => exact ⟨0, _, by omega, rfl, rfl, HB.out⟩
      case round =>
        clear HB
        obtain ⟨k, t, hk, rfl, rfl, hb⟩ := hrel
        by_cases hlt : k < n
        · obtain ⟨b, o, rfl, _, hc⟩ := (hL.below (boxBelow hb)) k hlt
          have c0 := hc.c0
          have c1 := hc.c1
          have HB : Hid (Below (w.heap.size + 1) (w.alloc (.cells cs 27)) wr) := hb
          clear hc hb hL
          go_wp2
          any_goals (exact boxBelow HB.out)
          go_roundg (gk - 1)
          case rel => exact ⟨k + 1, _, by omega, rfl, by go_num, HB.out⟩
          case measure => omega
        · have HB : Hid (Below (w.heap.size + 1) (w.alloc (.cells cs 27)) wr) := hb
          clear hb
          go_wp2
          all_goals exact boxBelow HB.out

set_option maxHeartbeats 1000000 in
theorem bytes23 (cs : Array Value) (I : Nat → Lk) (hI : IpAt cs I) (x : Int) (a : Option Addr) (L : Nat → Lk) (n cap : Nat) (a2 : Option Addr) (n2 cap2 : Nat) (r : ByteArray) (h : Hold) (w : World) (hL : OtAt w a n L)
    (R : Ending → World → Prop) (hR : ∀ b w', Below w.heap.size w w' → R (.returned (.bool b)) w') :
    Calls Try.prog 23 #[.agg cs, .int .i64 x, .slice a n cap, .slice a2 n2 cap2, .string r, .agg #[.string h.mode, .int .u64 h.ver, .bool h.cdr, .bool h.loc, .bool h.tol, .bool h.wri, .int .u64 h.tok, .int .u64 h.sqn]] w R := by
  go_enter Try.func23, Try.ntmps23
  go_wp2
  go_loopg [13, 14] 4 (fun g tot i wr => ∃ (k : Nat) (t : Int), k + g = 4 ∧ tot = .int .i64 t ∧ i = .int .i64 k ∧ Below (w.heap.size + 2) ((w.alloc (.cells cs 27)).alloc (.cells #[.string h.mode, .int .u64 h.ver, .bool h.cdr, .bool h.loc, .bool h.tol, .bool h.wri, .int .u64 h.tok, .int .u64 h.sqn] 24)) wr)
  case atStart => exact ⟨0, _, rfl, rfl, rfl, Below.refl _ _⟩
  case round =>
    obtain ⟨k, t, hk, rfl, rfl, hb⟩ := hrel
    by_cases hlt : k < 4
    · have hc := hI.at (blk hb (heap_old _ (heap_new _ _)) (by omega)) hlt
      have c0 := hc.c0
      have c1 := hc.c1
      have HB : Hid (Below (w.heap.size + 2) ((w.alloc (.cells cs 27)).alloc (.cells #[.string h.mode, .int .u64 h.ver, .bool h.cdr, .bool h.loc, .bool h.tol, .bool h.wri, .int .u64 h.tok, .int .u64 h.sqn] 24)) wr) := hb
      clear hc hb
      go_wp2
      any_goals (exact box2Below HB.out)
      go_roundg (gk - 1)
      case rel => exact ⟨k + 1, _, by omega, rfl, by go_num, HB.out⟩
      case measure => omega
    · have HB : Hid (Below (w.heap.size + 2) ((w.alloc (.cells cs 27)).alloc (.cells #[.string h.mode, .int .u64 h.ver, .bool h.cdr, .bool h.loc, .bool h.tol, .bool h.wri, .int .u64 h.tok, .int .u64 h.sqn] 24)) wr) := hb
      clear hb
      go_wp2
      · exact box2Below HB.out
      · exact box2Below HB.out
      have hn : (n : Int) ≤ 1048576 := by assumption
      go_loopg [13, 15] n (fun g tot i wr => ∃ (k : Nat) (t : Int), k + g = n ∧ tot = .int .i64 t ∧ i = .int .i64 k ∧ Below (w.heap.size + 2) ((w.alloc (.cells cs 27)).alloc (.cells #[.string h.mode, .int .u64 h.ver, .bool h.cdr, .bool h.loc, .bool h.tol, .bool h.wri, .int .u64 h.tok, .int .u64 h.sqn] 24)) wr)
      case atStart => exact ⟨0, _, by omega, rfl, rfl, HB.out⟩
      case round =>
        clear HB
        obtain ⟨k, t, hk, rfl, rfl, hb⟩ := hrel
        by_cases hlt : k < n
        · obtain ⟨b, o, rfl, _, hc⟩ := (hL.below (box2Below hb)) k hlt
          have c0 := hc.c0
          have c1 := hc.c1
          have HB : Hid (Below (w.heap.size + 2) ((w.alloc (.cells cs 27)).alloc (.cells #[.string h.mode, .int .u64 h.ver, .bool h.cdr, .bool h.loc, .bool h.tol, .bool h.wri, .int .u64 h.tok, .int .u64 h.sqn] 24)) wr) := hb
          clear hc hb hL
          go_wp2
          any_goals (exact box2Below HB.out)
          go_roundg (gk - 1)
          case rel => exact ⟨k + 1, _, by omega, rfl, by go_num, HB.out⟩
          case measure => omega
        · have m0 : wr.cell? ⟨w.heap.size + 1, 0, none⟩ = some (.string h.mode) := (cell_of_heap (blk hb (heap_new2 _ _ _) (by omega)) 0).trans rfl
          have HB : Hid (Below (w.heap.size + 2) ((w.alloc (.cells cs 27)).alloc (.cells #[.string h.mode, .int .u64 h.ver, .bool h.cdr, .bool h.loc, .bool h.tol, .bool h.wri, .int .u64 h.tok, .int .u64 h.sqn] 24)) wr) := hb
          clear hb
          go_wp2
          all_goals exact box2Below HB.out

set_option maxHeartbeats 1000000 in
theorem bytes30 (cs : Array Value) (I : Nat → Lk) (hI : IpAt cs I) (x : Int) (a : Option Addr) (L : Nat → Lk) (n cap : Nat) (a2 : Option Addr) (n2 cap2 : Nat) (r : ByteArray) (h : Hold) (w : World) (hL : OtAt w a n L)
    (R : Ending → World → Prop) (hR : ∀ b w', Below w.heap.size w w' → R (.returned (.bool b)) w') :
    Calls Try.prog 30 #[.agg cs, .int .i64 x, .slice a n cap, .slice a2 n2 cap2, .string r, .agg #[.string h.mode, .int .u64 h.ver, .bool h.cdr, .bool h.loc, .bool h.tol, .bool h.wri, .int .u64 h.tok, .int .u64 h.sqn]] w R := by
  go_enter Try.func30, Try.ntmps30
  go_wp2
  go_loopg [13, 14] 4 (fun g tot i wr => ∃ (k : Nat) (t : Int), k + g = 4 ∧ tot = .int .i64 t ∧ i = .int .i64 k ∧ Below (w.heap.size + 2) ((w.alloc (.cells cs 27)).alloc (.cells #[.string h.mode, .int .u64 h.ver, .bool h.cdr, .bool h.loc, .bool h.tol, .bool h.wri, .int .u64 h.tok, .int .u64 h.sqn] 24)) wr)
  case atStart => exact ⟨0, _, rfl, rfl, rfl, Below.refl _ _⟩
  case round =>
    obtain ⟨k, t, hk, rfl, rfl, hb⟩ := hrel
    by_cases hlt : k < 4
    · have hc := hI.at (blk hb (heap_old _ (heap_new _ _)) (by omega)) hlt
      have c0 := hc.c0
      have c1 := hc.c1
      have HB : Hid (Below (w.heap.size + 2) ((w.alloc (.cells cs 27)).alloc (.cells #[.string h.mode, .int .u64 h.ver, .bool h.cdr, .bool h.loc, .bool h.tol, .bool h.wri, .int .u64 h.tok, .int .u64 h.sqn] 24)) wr) := hb
      clear hc hb
      go_wp2
      any_goals (exact box2Below HB.out)
      go_roundg (gk - 1)
      case rel => exact ⟨k + 1, _, by omega, rfl, by go_num, HB.out⟩
      case measure => omega
    · have HB : Hid (Below (w.heap.size + 2) ((w.alloc (.cells cs 27)).alloc (.cells #[.string h.mode, .int .u64 h.ver, .bool h.cdr, .bool h.loc, .bool h.tol, .bool h.wri, .int .u64 h.tok, .int .u64 h.sqn] 24)) wr) := hb
      clear hb
      go_wp2
      · exact box2Below HB.out
      · exact box2Below HB.out
      have hn : (n : Int) ≤ 1048576 := by assumption
      go_loopg [13, 15] n (fun g tot i wr => ∃ (k : Nat) (t : Int), k + g = n ∧ tot = .int .i64 t ∧ i = .int .i64 k ∧ Below (w.heap.size + 2) ((w.alloc (.cells cs 27)).alloc (.cells #[.string h.mode, .int .u64 h.ver, .bool h.cdr, .bool h.loc, .bool h.tol, .bool h.wri, .int .u64 h.tok, .int .u64 h.sqn] 24)) wr)
      case atStart => exact ⟨0, _, by omega, rfl, rfl, HB.out⟩
      case round =>
        clear HB
        obtain ⟨k, t, hk, rfl, rfl, hb⟩ := hrel
        by_cases hlt : k < n
        · obtain ⟨b, o, rfl, _, hc⟩ := (hL.below (box2Below hb)) k hlt
          have c0 := hc.c0
          have c1 := hc.c1
          have HB : Hid (Below (w.heap.size + 2) ((w.alloc (.cells cs 27)).alloc (.cells #[.string h.mode, .int .u64 h.ver, .bool h.cdr, .bool h.loc, .bool h.tol, .bool h.wri, .int .u64 h.tok, .int .u64 h.sqn] 24)) wr) := hb
          clear hc hb hL
          go_wp2
          any_goals (exact box2Below HB.out)
          go_roundg (gk - 1)
          case rel => exact ⟨k + 1, _, by omega, rfl, by go_num, HB.out⟩
          case measure => omega
        · have m0 : wr.cell? ⟨w.heap.size + 1, 0, none⟩ = some (.string h.mode) := (cell_of_heap (blk hb (heap_new2 _ _ _) (by omega)) 0).trans rfl
          have HB : Hid (Below (w.heap.size + 2) ((w.alloc (.cells cs 27)).alloc (.cells #[.string h.mode, .int .u64 h.ver, .bool h.cdr, .bool h.loc, .bool h.tol, .bool h.wri, .int .u64 h.tok, .int .u64 h.sqn] 24)) wr) := hb
          clear hb
          go_wp2
          all_goals exact box2Below HB.out

set_option maxHeartbeats 1000000 in
theorem bytes33 (cs : Array Value) (I : Nat → Lk) (hI : IpAt cs I) (x : Int) (a : Option Addr) (L : Nat → Lk) (n cap : Nat) (a2 : Option Addr) (n2 cap2 : Nat) (r : ByteArray) (h : Hold) (w : World) (hL : OtAt w a n L)
    (R : Ending → World → Prop) (hR : ∀ b w', Below w.heap.size w w' → R (.returned (.bool b)) w') :
    Calls Try.prog 33 #[.agg cs, .int .i64 x, .slice a n cap, .slice a2 n2 cap2, .string r, .agg #[.string h.mode, .int .u64 h.ver, .bool h.cdr, .bool h.loc, .bool h.tol, .bool h.wri, .int .u64 h.tok, .int .u64 h.sqn]] w R := by
  go_enter Try.func33, Try.ntmps33
  go_wp2
  go_loopg [13, 14] 4 (fun g tot i wr => ∃ (k : Nat) (t : Int), k + g = 4 ∧ tot = .int .i64 t ∧ i = .int .i64 k ∧ Below (w.heap.size + 2) ((w.alloc (.cells cs 27)).alloc (.cells #[.string h.mode, .int .u64 h.ver, .bool h.cdr, .bool h.loc, .bool h.tol, .bool h.wri, .int .u64 h.tok, .int .u64 h.sqn] 24)) wr)
  case atStart => exact ⟨0, _, rfl, rfl, rfl, Below.refl _ _⟩
  case round =>
    obtain ⟨k, t, hk, rfl, rfl, hb⟩ := hrel
    by_cases hlt : k < 4
    · have hc := hI.at (blk hb (heap_old _ (heap_new _ _)) (by omega)) hlt
      have c0 := hc.c0
      have c1 := hc.c1
      have HB : Hid (Below (w.heap.size + 2) ((w.alloc (.cells cs 27)).alloc (.cells #[.string h.mode, .int .u64 h.ver, .bool h.cdr, .bool h.loc, .bool h.tol, .bool h.wri, .int .u64 h.tok, .int .u64 h.sqn] 24)) wr) := hb
      clear hc hb
      go_wp2
      any_goals (exact box2Below HB.out)
      go_roundg (gk - 1)
      case rel => exact ⟨k + 1, _, by omega, rfl, by go_num, HB.out⟩
      case measure => omega
    · have HB : Hid (Below (w.heap.size + 2) ((w.alloc (.cells cs 27)).alloc (.cells #[.string h.mode, .int .u64 h.ver, .bool h.cdr, .bool h.loc, .bool h.tol, .bool h.wri, .int .u64 h.tok, .int .u64 h.sqn] 24)) wr) := hb
      clear hb
      go_wp2
      · exact box2Below HB.out
      · exact box2Below HB.out
      have hn : (n : Int) ≤ 1048576 := by assumption
      go_loopg [13, 15] n (fun g tot i wr => ∃ (k : Nat) (t : Int), k + g = n ∧ tot = .int .i64 t ∧ i = .int .i64 k ∧ Below (w.heap.size + 2) ((w.alloc (.cells cs 27)).alloc (.cells #[.string h.mode, .int .u64 h.ver, .bool h.cdr, .bool h.loc, .bool h.tol, .bool h.wri, .int .u64 h.tok, .int .u64 h.sqn] 24)) wr)
      case atStart => exact ⟨0, _, by omega, rfl, rfl, HB.out⟩
      case round =>
        clear HB
        obtain ⟨k, t, hk, rfl, rfl, hb⟩ := hrel
        by_cases hlt : k < n
        · obtain ⟨b, o, rfl, _, hc⟩ := (hL.below (box2Below hb)) k hlt
          have c0 := hc.c0
          have c1 := hc.c1
          have HB : Hid (Below (w.heap.size + 2) ((w.alloc (.cells cs 27)).alloc (.cells #[.string h.mode, .int .u64 h.ver, .bool h.cdr, .bool h.loc, .bool h.tol, .bool h.wri, .int .u64 h.tok, .int .u64 h.sqn] 24)) wr) := hb
          clear hc hb hL
          go_wp2
          any_goals (exact box2Below HB.out)
          go_roundg (gk - 1)
          case rel => exact ⟨k + 1, _, by omega, rfl, by go_num, HB.out⟩
          case measure => omega
        · have m0 : wr.cell? ⟨w.heap.size + 1, 0, none⟩ = some (.string h.mode) := (cell_of_heap (blk hb (heap_new2 _ _ _) (by omega)) 0).trans rfl
          have HB : Hid (Below (w.heap.size + 2) ((w.alloc (.cells cs 27)).alloc (.cells #[.string h.mode, .int .u64 h.ver, .bool h.cdr, .bool h.loc, .bool h.tol, .bool h.wri, .int .u64 h.tok, .int .u64 h.sqn] 24)) wr) := hb
          clear hb
          go_wp2
          all_goals exact box2Below HB.out

end Go.Proofs.Qxb6605402a
