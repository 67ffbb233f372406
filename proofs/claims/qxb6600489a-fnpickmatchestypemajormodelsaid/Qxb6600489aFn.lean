import Derived.Test.Qxb6600489aBase
namespace Go.Proofs.Qxb6600489a
open Go.RowKit
set_option linter.unusedVariables false
set_option linter.unusedSimpArgs false

/-- Is x among the first k of O? -/
def has (O : Nat → Tr) : Nat → Tr → Bool
  | 0, _ => false
  | k + 1, x => has O k x || same (O k) x
theorem has_of {O : Nat → Tr} {x : Tr} : ∀ {n k}, k < n → O k = x → has O n x = true
  | 0, k, h, _ => by omega
  | n + 1, k, h, e => by
    show (has O n x || same (O n) x) = true
    by_cases hk : k = n
    · subst hk; rw [e, (same_iff x x).2 rfl, Bool.or_true]
    · rw [has_of (n := n) (by omega) e, Bool.true_or]

set_option maxHeartbeats 2000000 in
theorem bytes6 (a1 a2 a3 : Option Addr) (n1 n2 n3 c1 c2 c3 : Nat) (w : World) (h1 : n1 ≤ 9223372036854775807) (h2 : n2 ≤ 9223372036854775807) (h3 : n3 ≤ 9223372036854775807)
    (R : Ending → World → Prop) (hR : ∀ b, R (.returned (.bool b)) w) : Calls Try.prog 6 #[.slice a1 n1 c1, .slice a2 n2 c2, .slice a3 n3 c3] w R := by
  go_enter Try.func6, Try.ntmps6
  go_wp2
  all_goals exact hR _

set_option maxHeartbeats 1000000 in
theorem toTypes9 (a : Option Addr) (Y : Nat → Int) (n cap : Nat) (hn : n ≤ 4096) (w : World) (hL : BtAt .u8 w a n Y)
    (R : Ending → World → Prop) (hR : ∀ a' cap' w', BtAt .u8 w' a' n Y → Below w.heap.size w w' → R (.returned (.slice a' n cap')) w') :
    Calls Try.prog 9 #[.slice a n cap] w R := by
  obtain ⟨cs, hcs, hmk⟩ := make_any Try.underlying33 Try.sz39 n (by omega) (by omega)
  have heq := fun (w : World) (a : Option Addr) (l c : Nat) => Lib.run_eql_slice_nil (P := Try.prog) w 23 5 a l c 0 0 Try.underlying23
  rcases a with _ | ad
  · have hn0 : n = 0 := by
      by_cases h : 0 < n
      · obtain ⟨b, o, e, _⟩ := hL 0 h; cases e
      · omega
    subst hn0
    go_enter Try.func9, Try.ntmps9
    go_wp2
    exact hR none 0 _ hL (Below.refl _ _)
  · go_enter Try.func9, Try.ntmps9
    go_wp2
    go_loopg [4] n (fun g t wr => ∃ k : Nat, k + g = n ∧ t = .int .i64 k ∧ Row wr w.heap.size 39 (n * 1) ∧ (∀ i, i < k → wr.cell? ⟨w.heap.size, i, none⟩ = some (.int .u8 (Y i))) ∧ Below w.heap.size w wr)
    case atStart => exact ⟨0, by omega, rfl, ⟨_, heap_new _ _, hcs⟩, fun i h => by omega, (Below.refl _ _).alloc (Nat.le_refl _) _⟩
    case round =>
      obtain ⟨k, hk, rfl, hrow, hl, hb⟩ := hrel
      by_cases hlt : k < n
      · obtain ⟨b, o, e, _, c0⟩ := (hL.below hb) k hlt
        obtain rfl := Option.some.inj e
        have fz := hrow.fz
        obtain ⟨x0, d0⟩ := hrow.ex (o := k) (by omega)
        have H1 := hide (And.intro hrow (And.intro hl hb))
        clear hb hrow hl hL e hmk
        go_wp2
        go_roundg (gk - 1)
        case rel =>
          refine ⟨k + 1, by omega, by go_num, H1.out.1.setCell _ _, fun i hi => ?_, H1.out.2.2.setCell (p := ⟨w.heap.size, k, none⟩) (Nat.le_refl _) _⟩
          by_cases h : i = k
          · subst h; exact cell_same H1.out.1 (by omega)
          · exact (cell_other (.inr h)).trans (H1.out.2.1 i (by omega))
        case measure => omega
      · obtain rfl : k = n := by omega
        have H1 := hide (And.intro hl hb)
        have hlt' := hrow.lt
        clear hb hl hlt hrow hmk
        go_wp2
        exact hR _ _ _ (fun i hi => ⟨_, _, rfl, hlt', by rw [Nat.zero_add]; exact H1.out.1 i hi⟩) H1.out.2

set_option maxHeartbeats 2000000 in
theorem toTr7 (a : Option Addr) (P : Nat → Tr) (n cap : Nat) (hn : n ≤ 4096) (w : World) (hL : TsAt w a n P)
    (R : Ending → World → Prop) (hR : ∀ a' cap' w', TsAt w' a' n P → Below w.heap.size w w' → R (.returned (.slice a' n cap')) w') :
    Calls Try.prog 7 #[.slice a n cap] w R := by
  obtain ⟨cs, hcs, hmk⟩ := make_any Try.underlying25 Try.sz42 n (by omega) (by omega)
  have heq := fun (w : World) (a : Option Addr) (l c : Nat) => Lib.run_eql_slice_nil (P := Try.prog) w 22 44 a l c 0 0 Try.underlying22
  rcases a with _ | ad
  · have hn0 : n = 0 := by
      by_cases h : 0 < n
      · obtain ⟨b, o, e, _⟩ := hL 0 h; cases e
      · omega
    subst hn0
    go_enter Try.func7, Try.ntmps7
    go_wp2
    exact hR none 0 _ hL (Below.refl _ _)
  · go_enter Try.func7, Try.ntmps7
    go_wp2
    go_loopg [4] n (fun g t wr => ∃ k : Nat, k + g = n ∧ t = .int .i64 k ∧ Row wr w.heap.size 42 (n * 3) ∧ (∀ i, i < k → TrAt wr w.heap.size (i * 3) (P i)) ∧ Below w.heap.size w wr)
    case atStart => exact ⟨0, by omega, rfl, ⟨_, heap_new _ _, hcs⟩, fun i h => by omega, (Below.refl _ _).alloc (Nat.le_refl _) _⟩
    case round =>
      obtain ⟨k, hk, rfl, hrow, hl, hb⟩ := hrel
      by_cases hlt : k < n
      · obtain ⟨b, o, e, hbl, hc⟩ := hL k hlt
        obtain rfl := Option.some.inj e
        obtain ⟨c0, c1, c2⟩ := hc.keep (hb.block b hbl)
        have fz := hrow.fz
        obtain ⟨x0, d0⟩ := hrow.ex (o := k * 3) (by omega)
        obtain ⟨x1, d1⟩ := hrow.ex (o := k * 3 + 1) (by omega)
        obtain ⟨x2, d2⟩ := hrow.ex (o := k * 3 + 2) (by omega)
        have H1 := hide (And.intro hrow (And.intro hl hb))
        clear hb hrow hl hL e hmk hc
        go_wp2
        go_region
        go_wp2
        go_roundg (gk - 1)
        case rel =>
          refine ⟨k + 1, by omega, by go_num, ?_, ?_, ?_⟩
          · exact (((H1.out.1.setCell _ _).setCell _ _).setCell _ _).of_block rfl
          · intro i hi
            by_cases h : i = k
            · subst h; exact (TrAt.put H1.out.1 (by omega) (P i)).keep rfl
            · exact (TrAt.out (P k) (H1.out.2.1 i (by omega)) (.inl (by omega))).keep rfl
          · exact (((H1.out.2.2.setCell (p := ⟨w.heap.size, k * 3, none⟩) (Nat.le_refl _) _).setCell (p := ⟨w.heap.size, k * 3 + 1, none⟩) (Nat.le_refl _) _).setCell (p := ⟨w.heap.size, k * 3 + 2, none⟩) (Nat.le_refl _) _).drew
        case measure => omega
      · obtain rfl : k = n := by omega
        have H1 := hide (And.intro hl hb)
        have hlt' := hrow.lt
        clear hb hl hlt hrow hmk
        go_wp2
        exact hR _ _ _ (fun i hi => ⟨_, _, rfl, hlt', by rw [Nat.zero_add]; exact H1.out.1 i hi⟩) H1.out.2

set_option maxHeartbeats 1000000 in
theorem index17 (a : Option Addr) (Y : Nat → Int) (n cap : Nat) (t : Int) (hn : n ≤ 4096) (w : World) (hL : BtAt .u8 w a n Y)
    (R : Ending → World → Prop) (h1 : (∀ i, i < n → Y i ≠ t) → R (.returned (.int .i64 (-1))) w) (h2 : ∀ i : Nat, i < n → Y i = t → (∀ j, j < i → Y j ≠ t) → R (.returned (.int .i64 i)) w) :
    Calls Try.prog 17 #[.slice a n cap, .int .u8 t] w R := by
  go_enter Try.func17, Try.ntmps17
  go_wp2
  go_loopg [8] n (fun g x wr => ∃ k : Nat, k + g = n ∧ x = .int .i64 k ∧ (∀ i, i < k → Y i ≠ t) ∧ wr = w)
  case atStart => exact ⟨0, by omega, rfl, fun i hi => by omega, rfl⟩
  case round =>
    obtain ⟨k, hk, rfl, hno, rfl⟩ := hrel
    by_cases hlt : k < n
    · obtain ⟨b, o, rfl, hb, hc⟩ := hL k hlt
      by_cases e : Y k = t
      · have HR := hide (h2 k hlt e hno)
        rw [e] at hc
        clear h1 h2 hno hL
        go_wp2
        exact HR.out
      · have hne : (t == Y k) = false := by simp; exact fun h => e h.symm
        have hne2 : ¬ (t = Y k) := fun h => e h.symm
        have HN := hide hno
        have HH := hide (And.intro h1 h2)
        clear h1 h2 hno hL
        go_wp2
        go_roundg (gk - 1)
        case rel => exact ⟨k + 1, by omega, by go_num, fun i hi => by
          by_cases e' : i = k
          · subst e'; exact e
          · exact HN.out i (by omega), rfl⟩
        case measure => omega
    · obtain rfl : k = n := by omega
      have HR := hide (h1 hno)
      clear h1 h2 hno hL hlt hk
      go_wp2
      exact HR.out

set_option maxHeartbeats 1000000 in
theorem index21 (a : Option Addr) (b : Nat) (F : Nat → Bool) (n cap : Nat) (hn : n ≤ 4096) (w : World) (ha : 0 < n → a = some ⟨b, 0, none⟩) (hF : ∀ i, i < n → w.cell? ⟨b, i, none⟩ = some (.bool (F i)))
    (R : Ending → World → Prop) (h1 : (∀ i, i < n → F i = true) → R (.returned (.int .i64 (-1))) w) (h2 : ∀ i : Nat, i < n → F i = false → R (.returned (.int .i64 i)) w) :
    Calls Try.prog 21 #[.slice a n cap, .bool false] w R := by
  go_enter Try.func21, Try.ntmps21
  go_wp2
  go_loopg [8] n (fun g x wr => ∃ k : Nat, k + g = n ∧ x = .int .i64 k ∧ (∀ i, i < k → F i = true) ∧ wr = w)
  case atStart => exact ⟨0, by omega, rfl, fun i hi => by omega, rfl⟩
  case round =>
    obtain ⟨k, hk, rfl, hno, rfl⟩ := hrel
    by_cases hlt : k < n
    · obtain rfl := ha (by omega)
      have hc := hF k hlt
      cases e : F k with
      | false =>
        have HR := hide (h2 k hlt e)
        rw [e] at hc
        clear h1 h2 hno hF ha e
        go_wp2
        exact HR.out
      | true =>
        rw [e] at hc
        have HN := hide hno
        have HE := hide e
        have HH := hide (And.intro h1 (And.intro h2 hF))
        clear h1 h2 hno hF ha e
        go_wp2
        go_roundg (gk - 1)
        case rel => exact ⟨k + 1, by omega, by go_num, fun i hi => by
          by_cases e' : i = k
          · subst e'; exact HE.out
          · exact HN.out i (by omega), rfl⟩
        case measure => omega
    · obtain rfl : k = n := by omega
      have HR := hide (h1 hno)
      clear h1 h2 hno hF ha hlt hk
      go_wp2
      exact HR.out

set_option maxHeartbeats 1000000 in
theorem contains19 (a : Option Addr) (b : Nat) (F : Nat → Bool) (n cap : Nat) (hn : n ≤ 4096) (w : World) (ha : 0 < n → a = some ⟨b, 0, none⟩) (hF : ∀ i, i < n → w.cell? ⟨b, i, none⟩ = some (.bool (F i)))
    (R : Ending → World → Prop) (h1 : (∀ i, i < n → F i = true) → R (.returned (.bool false)) w) (h2 : ∀ i : Nat, i < n → F i = false → R (.returned (.bool true)) w) :
    Calls Try.prog 19 #[.slice a n cap, .bool false] w R := by
  have HH := hide (And.intro ha hF)
  have H1 := hide h1
  have H2 := hide h2
  clear ha hF h1 h2
  go_enter Try.func19, Try.ntmps19
  go_wp2_with (go_at_call 21; refine index21 a b F n cap hn w HH.out.1 HH.out.2 _ (fun q => ?_) (fun i q1 q2 => ?_))
  · exact H1.out q
  · exact H2.out i q1 q2

end Go.Proofs.Qxb6600489a
