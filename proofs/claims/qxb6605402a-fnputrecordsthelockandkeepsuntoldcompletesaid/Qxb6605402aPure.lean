import Derived.Test.Qxb6605402aBase
namespace Go.Proofs.Qxb6605402a
open Go.RowKit
set_option linter.unusedVariables false
set_option linter.unusedSimpArgs false

set_option maxHeartbeats 400000 in
/-- zzListed -/
theorem listed28 (a : Option Addr) (u cap : Nat) (U : Nat → Int) (i : Int) (w : World) (hu : u ≤ 4096) (hU : UtAt w a u U)
    (R : Ending → World → Prop) (hR : ∀ b : Bool, (b = true → ∃ k : Nat, k < u ∧ U k = i) → (b = false → ∀ k : Nat, k < u → U k ≠ i) → R (.returned (.bool b)) w) :
    Calls Try.prog 28 #[.slice a u cap, .int .i64 i] w R := by
  go_enter Try.func28, Try.ntmps28
  go_wp2
  go_loopg [5] u (fun g t wr => ∃ k : Nat, k + g = u ∧ t = .int .i64 k ∧ wr = w ∧ ∀ j, j < k → U j ≠ i)
  case atStart => exact ⟨0, by omega, rfl, rfl, fun j hj => by omega⟩
  case round =>
    obtain ⟨k, hk, rfl, rfl, hn⟩ := hrel
    by_cases hlt : k < u
    · obtain ⟨b, o, rfl, _, hc⟩ := hU k hlt
      have HN : Hid (∀ j, j < k → U j ≠ i) := hn
      clear hU hn
      by_cases he : U k = i
      · have hb : (U k == i) = true := by simp [he]
        have HE : Hid (U k = i) := he
        clear he
        go_wp2
        exact hR _ (fun _ => ⟨k, hlt, HE.out⟩) (fun h => by cases h)
      · have hb : (U k == i) = false := by simp [he]
        have HE : Hid (U k ≠ i) := he
        clear he
        go_wp2
        go_roundg (gk - 1)
        case rel => exact ⟨k + 1, by omega, by go_num, rfl, fun j hj => if h : j = k then h ▸ HE.out else HN.out j (by omega)⟩
        case measure => omega
    · have HN : Hid (∀ j, j < k → U j ≠ i) := hn
      clear hn
      go_wp2
      have hk' : k = u := by omega
      subst hk'
      exact hR _ (fun h => by cases h) (fun _ => HN.out)

set_option maxHeartbeats 1000000 in
/-- zzTooBig -/
theorem tooBig8 (cs : Array Value) (I : Nat → Lk) (hI : IpAt cs I) (a : Option Addr) (L : Nat → Lk) (n cap : Nat) (a2 : Option Addr) (n2 cap2 : Nat) (r m : ByteArray) (w : World) (hL : OtAt w a n L)
    (R : Ending → World → Prop) (hR : ∀ b w', (b = false → n ≤ 4096 ∧ n2 ≤ 4096) → Below w.heap.size w w' → R (.returned (.bool b)) w')  :
    Calls Try.prog 8 #[.agg cs, .slice a n cap, .slice a2 n2 cap2, .string r, .string m] w R := by
  by_cases h1 : n ≤ 4096
  · by_cases h2 : n2 ≤ 4096
    · have d1 : decide (4096 < (n : Int)) = false := by simp; omega
      have d2 : decide (4096 < (n2 : Int)) = false := by simp; omega
      by_cases h3 : r.size ≤ 1048576
      · by_cases h4 : m.size ≤ 1048576
        · have d3 : decide (1048576 < (r.size : Int)) = false := by simp; omega
          have d4 : decide (1048576 < (m.size : Int)) = false := by simp; omega
          go_enter Try.func8, Try.ntmps8
          go_wp2
          go_loopg [11, 12] 4 (fun g tot i wr => ∃ (k : Nat) (t : Int), k + g = 4 ∧ tot = .int .i64 t ∧ i = .int .i64 k ∧ Below (w.heap.size + 1) (w.alloc (.cells cs 27)) wr)
          case atStart => exact ⟨0, _, rfl, rfl, rfl, Below.refl _ _⟩
          case round =>
            obtain ⟨k, t, hk, rfl, rfl, hb⟩ := hrel
            have HB : Hid (Below (w.heap.size + 1) (w.alloc (.cells cs 27)) wr) := hb
            by_cases hlt : k < 4
            · have hc := hI.at (blk hb (heap_new _ _) (by omega)) hlt
              have c0 := hc.c0
              have c1 := hc.c1
              clear hc hb hL
              have hlt' : (k : Int) < 4 := by omega
              by_cases e1 : ((I k).res.size : Int) ≤ 1048576
              · have d5 : decide (1048576 < ((I k).res.size : Int)) = false := by simp; omega
                by_cases e2 : ((I k).hd.mode.size : Int) ≤ 1048576
                · have d6 : decide (1048576 < ((I k).hd.mode.size : Int)) = false := by simp; omega
                  go_wp2
                  go_quiet (fail)
                  go_wp2
                  go_roundg (gk - 1)
                  case rel => exact ⟨k + 1, _, by omega, rfl, by go_num, Below_drewN HB.out _⟩
                  case measure => omega
                · go_wp2
                  exact hR _ _ (by simp) (boxBelow HB.out)
              · go_wp2
                exact hR _ _ (by simp) (boxBelow HB.out)
            · clear hb
              go_wp2
              go_loopg [11, 13] n (fun g tot i wr => ∃ (k : Nat) (t : Int), k + g = n ∧ tot = .int .i64 t ∧ i = .int .i64 k ∧ Below (w.heap.size + 1) (w.alloc (.cells cs 27)) wr)
              case atStart => exact ⟨0, _, by omega, rfl, rfl, HB.out⟩
              case round =>
                clear HB
                obtain ⟨k, t, hk, rfl, rfl, hb⟩ := hrel
                have HB : Hid (Below (w.heap.size + 1) (w.alloc (.cells cs 27)) wr) := hb
                by_cases hlt : k < n
                · obtain ⟨b, o, rfl, _, hc⟩ := (hL.below (boxBelow hb)) k hlt
                  have c0 := hc.c0
                  have c1 := hc.c1
                  clear hc hb hL
                  have hlt' : (k : Int) < n := by omega
                  by_cases e1 : ((L k).res.size : Int) ≤ 1048576
                  · have d5 : decide (1048576 < ((L k).res.size : Int)) = false := by simp; omega
                    by_cases e2 : ((L k).hd.mode.size : Int) ≤ 1048576
                    · have d6 : decide (1048576 < ((L k).hd.mode.size : Int)) = false := by simp; omega
                      go_wp2
                      go_quiet (fail)
                      go_wp2
                      · exact hR _ _ (by simp) (Below_drewN (boxBelow HB.out) _)
                      go_roundg (gk - 1)
                      case rel => exact ⟨k + 1, _, by omega, rfl, by go_num, Below_drewN HB.out _⟩
                      case measure => omega
                    · go_wp2
                      exact hR _ _ (by simp) (boxBelow HB.out)
                  · go_wp2
                    exact hR _ _ (by simp) (boxBelow HB.out)
                · clear hb
                  go_wp2
                  exact hR _ _ (fun _ => ⟨h1, h2⟩) (boxBelow HB.out)
        · go_enter Try.func8, Try.ntmps8
          go_wp2
          exact hR _ _ (by simp) ((Below.refl _ _).alloc (Nat.le_refl _) _)
      · go_enter Try.func8, Try.ntmps8
        go_wp2
        exact hR _ _ (by simp) ((Below.refl _ _).alloc (Nat.le_refl _) _)
    · go_enter Try.func8, Try.ntmps8
      go_wp2
      exact hR _ _ (by simp) ((Below.refl _ _).alloc (Nat.le_refl _) _)
  · go_enter Try.func8, Try.ntmps8
    go_wp2
    exact hR _ _ (by simp) ((Below.refl _ _).alloc (Nat.le_refl _) _)

set_option maxHeartbeats 400000 in
/-- zzCount -/
theorem count14 (a : Option Addr) (g cap : Nat) (G : Nat → ByteArray × ByteArray) (r m : ByteArray) (w : World) (hg : g ≤ 16384)
    (hG : ∀ i, i < g → ∃ b o, a = some ⟨b, o, none⟩ ∧ w.cell? ⟨b, o + i * 2, none⟩ = some (.string (G i).1) ∧ w.cell? ⟨b, o + i * 2 + 1, none⟩ = some (.string (G i).2))
    (R : Ending → World → Prop) (hR : R (.returned (.int .i64 (((List.range g).filter fun i => (G i).1.toList == r.toList && (G i).2.toList == m.toList).length : Nat))) w) :
    Calls Try.prog 14 #[.slice a g cap, .string r, .string m] w R := by
  have hs : ∀ k, ((List.range (k + 1)).filter fun i => (G i).1.toList == r.toList && (G i).2.toList == m.toList).length = ((List.range k).filter fun i => (G i).1.toList == r.toList && (G i).2.toList == m.toList).length + (if ((G k).1.toList == r.toList && (G k).2.toList == m.toList) = true then 1 else 0) := fun k => by
    rw [List.range_succ, List.filter_append, List.length_append, List.filter_cons]
    split <;> simp_all
  have hle : ∀ k, ((List.range k).filter fun i => (G i).1.toList == r.toList && (G i).2.toList == m.toList).length ≤ k := fun k => by
    have := List.length_filter_le (fun i => (G i).1.toList == r.toList && (G i).2.toList == m.toList) (List.range k)
    simpa using this
  generalize hC : (fun k => ((List.range k).filter fun i => (G i).1.toList == r.toList && (G i).2.toList == m.toList).length) = C at *
  have e0 : ∀ k, ((List.range k).filter fun i => (G i).1.toList == r.toList && (G i).2.toList == m.toList).length = C k := fun k => by rw [← hC]
  rw [e0] at hR
  simp only [e0] at hs hle
  have z0 : C 0 = 0 := by rw [← hC]; rfl
  clear e0 hC
  have HS : Hid (∀ k, C (k + 1) = C k + (if ((G k).1.toList == r.toList && (G k).2.toList == m.toList) = true then 1 else 0)) := hs
  have HZ : Hid (C 0 = 0) := z0
  clear hs z0
  go_enter Try.func14, Try.ntmps14
  go_wp2
  go_loopg [7, 8] g (fun gg c t wr => ∃ k : Nat, k + gg = g ∧ t = .int .i64 k ∧ c = .int .i64 (C k : Nat) ∧ wr = w)
  case atStart => exact ⟨0, by omega, rfl, by rw [HZ.out]; rfl, rfl⟩
  case round =>
    obtain ⟨k, hk, rfl, rfl, rfl⟩ := hrel
    have hck := hle k
    by_cases hlt : k < g
    · obtain ⟨b, o, rfl, c0, c1⟩ := hG k hlt
      clear hG
      have hs := HS.out k
      by_cases q1 : ((G k).1.toList == r.toList) = true
      · by_cases q2 : ((G k).2.toList == m.toList) = true
        · have hs' : Hid (C (k + 1) = C k + 1) := by rw [hs, q1, q2]; rfl
          clear hs
          go_wp2
          go_roundg (gk - 1)
          case rel => exact ⟨k + 1, by omega, by go_num, by rw [hs'.out]; go_num, rfl⟩
          case measure => omega
        · have q2 : ((G k).2.toList == m.toList) = false := by simpa using q2
          have hs' : Hid (C (k + 1) = C k) := by rw [hs, q1, q2]; rfl
          clear hs
          go_wp2
          go_roundg (gk - 1)
          case rel => exact ⟨k + 1, by omega, by go_num, by rw [hs'.out], rfl⟩
          case measure => omega
      · have q1 : ((G k).1.toList == r.toList) = false := by simpa using q1
        have hs' : Hid (C (k + 1) = C k) := by rw [hs, q1]; rfl
        clear hs
        go_wp2
        go_roundg (gk - 1)
        case rel => exact ⟨k + 1, by omega, by go_num, by rw [hs'.out], rfl⟩
        case measure => omega
    · have hk' : k = g := by omega
      subst hk'
      go_wp2
      exact hR

set_option maxHeartbeats 400000 in
/-- zzFind: -1, or an index at which the resource stands. -/
theorem find24 (cs : Array Value) (I : Nat → Lk) (hI : IpAt cs I) (N : Nat) (hN : N ≤ 4) (a : Option Addr) (L : Nat → Lk) (n cap : Nat) (hn : n ≤ 4096) (r : ByteArray) (w : World) (hL : OtAt w a n L)
    (R : Ending → World → Prop)
    (hR : ∀ (p q : Int) w', ((p = -1 ∧ ∀ i, i < N → (I i).res ≠ r) ∨ ∃ i : Nat, i < N ∧ p = i ∧ (I i).res = r) → ((q = -1 ∧ ∀ i, i < n → (L i).res ≠ r) ∨ ∃ i : Nat, i < n ∧ q = i ∧ (L i).res = r) → Below w.heap.size w w' → R (.returned (.tuple #[.int .i64 p, .int .i64 q])) w') :
    Calls Try.prog 24 #[.agg cs, .int .i64 N, .slice a n cap, .string r] w R := by
  go_enter Try.func24, Try.ntmps24
  go_wp2
  go_loopg [10, 11] N (fun g p i wr => ∃ (k : Nat) (q : Int), k + g = N ∧ i = .int .i64 k ∧ p = .int .i64 q ∧ Hid ((q = -1 ∧ ∀ i, i < k → (I i).res ≠ r) ∨ ∃ i : Nat, i < k ∧ q = i ∧ (I i).res = r) ∧ Below (w.heap.size + 1) (w.alloc (.cells cs 27)) wr)
  case atStart => exact ⟨0, _, by omega, rfl, rfl, .inl ⟨rfl, fun i hi => by omega⟩, Below.refl _ _⟩
  case round =>
    obtain ⟨k, q, hk, rfl, rfl, HQ, hb⟩ := hrel
    have HB : Hid (Below (w.heap.size + 1) (w.alloc (.cells cs 27)) wr) := hb
    by_cases hlt : k < N
    · have c0 := (hI.at (blk hb (heap_new _ _) (by omega)) (show k < 4 by omega)).c0
      clear hb hL
      by_cases e : (I k).res = r
      · have q1 := strT e
        have HE : Hid ((I k).res = r) := e
        clear e
        go_wp2
        go_roundg (gk - 1)
        case rel => exact ⟨k + 1, _, by omega, by go_num, rfl, .inr ⟨k, by omega, rfl, HE.out⟩, HB.out⟩
        case measure => omega
      · have q1 := strF e
        have HE : Hid ((I k).res ≠ r) := e
        clear e
        go_wp2
        go_roundg (gk - 1)
        case rel =>
          refine ⟨k + 1, _, by omega, by go_num, rfl, ?_, HB.out⟩
          rcases HQ.out with ⟨h1, h2⟩ | ⟨i, h1, h2, h3⟩
          · exact .inl ⟨h1, fun i hi => if h : i = k then h ▸ HE.out else h2 i (by omega)⟩
          · exact .inr ⟨i, by omega, h2, h3⟩
        case measure => omega
    · clear hb
      obtain rfl : k = N := by omega
      go_wp2
      go_loopg [12, 13] n (fun g p i wr => ∃ (k : Nat) (q : Int), k + g = n ∧ i = .int .i64 k ∧ p = .int .i64 q ∧ Hid ((q = -1 ∧ ∀ i, i < k → (L i).res ≠ r) ∨ ∃ i : Nat, i < k ∧ q = i ∧ (L i).res = r) ∧ Below (w.heap.size + 1) (w.alloc (.cells cs 27)) wr)
      case atStart => exact ⟨0, _, by omega, rfl, rfl, .inl ⟨rfl, fun i hi => by omega⟩, HB.out⟩
      case round =>
        clear HB
        obtain ⟨m, q2, hm, rfl, rfl, HQ2, hb⟩ := hrel
        have HB : Hid (Below (w.heap.size + 1) (w.alloc (.cells cs 27)) wr) := hb
        by_cases hlt2 : m < n
        · obtain ⟨b, o, rfl, _, hc⟩ := (hL.below (boxBelow hb)) m hlt2
          have c0 := hc.c0
          clear hb hL hc
          by_cases e : (L m).res = r
          · have q1 := strT e
            have HE : Hid ((L m).res = r) := e
            clear e
            go_wp2
            go_roundg (gk - 1)
            case rel => exact ⟨m + 1, _, by omega, by go_num, rfl, .inr ⟨m, by omega, rfl, HE.out⟩, HB.out⟩
            case measure => omega
          · have q1 := strF e
            have HE : Hid ((L m).res ≠ r) := e
            clear e
            go_wp2
            go_roundg (gk - 1)
            case rel =>
              refine ⟨m + 1, _, by omega, by go_num, rfl, ?_, HB.out⟩
              rcases HQ2.out with ⟨h1, h2⟩ | ⟨i, h1, h2, h3⟩
              · exact .inl ⟨h1, fun i hi => if h : i = m then h ▸ HE.out else h2 i (by omega)⟩
              · exact .inr ⟨i, by omega, h2, h3⟩
            case measure => omega
        · clear hb
          obtain rfl : m = n := by omega
          go_wp2
          exact hR _ _ _ HQ.out HQ2.out (boxBelow HB.out)

set_option maxHeartbeats 400000 in
/-- zzResourceListed -/
theorem resListed32 (a : Option Addr) (L : Nat → Lk) (n cap : Nat) (hn : n ≤ 4096) (a2 : Option Addr) (u cap2 : Nat) (hu : u ≤ 4096) (T : Nat → Nat) (hT : ∀ k, k < u → T k < n) (r : ByteArray) (w : World) (hL : OtAt w a n L) (hU : UtAt w a2 u (fun i => (T i : Int)))
    (R : Ending → World → Prop) (hR : ∀ b : Bool, (b = true → ∃ k : Nat, k < u ∧ (L (T k)).res = r) → (b = false → ∀ k : Nat, k < u → (L (T k)).res ≠ r) → R (.returned (.bool b)) w) :
    Calls Try.prog 32 #[.slice a n cap, .slice a2 u cap2, .string r] w R := by
  go_enter Try.func32, Try.ntmps32
  go_wp2
  go_loopg [7] u (fun g t wr => ∃ k : Nat, k + g = u ∧ t = .int .i64 k ∧ wr = w ∧ ∀ j, j < k → (L (T j)).res ≠ r)
  case atStart => exact ⟨0, by omega, rfl, rfl, fun j hj => by omega⟩
  case round =>
    obtain ⟨k, hk, rfl, rfl, hq⟩ := hrel
    have HN : Hid (∀ j, j < k → (L (T j)).res ≠ r) := hq
    clear hq
    by_cases hlt : k < u
    · obtain ⟨b, o, rfl, _, hc⟩ := hU k hlt
      have ht := hT k hlt
      obtain ⟨b', o', rfl, _, hc'⟩ := hL (T k) ht
      have c0 := hc'.c0
      have hc : wr.cell? ⟨b, o + k, none⟩ = some (.int .i64 (T k : Int)) := hc
      clear hU hL hc' hT
      by_cases he : (L (T k)).res = r
      · have q1 := strT he
        have HE : Hid ((L (T k)).res = r) := he
        clear he
        go_wp2
        exact hR _ (fun _ => ⟨k, hlt, HE.out⟩) (fun h => by cases h)
      · have q1 := strF he
        have HE : Hid ((L (T k)).res ≠ r) := he
        clear he
        go_wp2
        go_roundg (gk - 1)
        case rel => exact ⟨k + 1, by omega, by go_num, rfl, fun j hj => if h : j = k then h ▸ HE.out else HN.out j (by omega)⟩
        case measure => omega
    · go_wp2
      obtain rfl : k = u := by omega
      exact hR _ (fun h => by cases h) (fun _ => HN.out)

end Go.Proofs.Qxb6605402a
