import Derived.Test.Qxb6605402aPut
import Derived.LaidEqlPtr
import Derived.Lib.Builder
namespace Go.Proofs.Qxb6605402a
open Go.RowKit Go.Maps
set_option linter.unusedVariables false
set_option linter.unusedSimpArgs false
variable {w : World} {base s : Nat} {S : LD}

theorem ex_info {te n : Nat} (h : (Try.prog.info? te).map (·.size) = some n) : ∃ j, Try.prog.info? te = some j ∧ j.size = n := by
  obtain ⟨j, h1, h2⟩ := Option.map_eq_some_iff.1 h
  exact ⟨j, h1, h2⟩
theorem Try.size82 : (Try.prog.info? 82).map (·.size) = some 9 := by kernel_rfl
theorem Try.size72 : (Try.prog.info? 72).map (·.size) = some 8 := by kernel_rfl
theorem eqp80 (w : World) (a : Addr) : (binOp .eql 80 (.pointer (some a)) (.pointer (some a))).run Try.prog w = .ok (.bool true) w := by
  obtain ⟨j, h, _⟩ := ex_info Try.size82
  exact run_eql_ptr_same w a Try.underlying80 h
theorem nep45 (w : World) (a : Addr) : (binOp .neq 45 (.pointer (some a)) (.pointer (some a))).run Try.prog w = .ok (.bool false) w := by
  obtain ⟨j, h, _⟩ := ex_info Try.size72
  exact Lib.run_neq_ptr_same w a Try.underlying45 h

/-- no resource is held twice -/
structure DS (S : LD) : Prop where
  ii : ∀ i j, i < j → j < S.N → (S.I i).res ≠ (S.I j).res
  io : ∀ i j, i < S.N → j < S.m → (S.I i).res ≠ (S.O j).res

set_option maxRecDepth 100000 in
set_option maxHeartbeats 1000000 in
/-- of, in place: no bound on the name's length -/
theorem of38I (w : World) (base s : Nat) (S : LD) (h : LS w base s S) (r : ByteArray) (k0 : Nat) (hk0 : AtI S r k0) (R : Ending → World → Prop) (h1 : ∀ n, R (.returned (.pointer (some ⟨s, k0 * 9 + 1, none⟩))) (w.drewN n)) :
    Calls Try.prog 38 #[.pointer (some ⟨s, 0, none⟩), .string r] w R := by
  have hN := h.hN
  have cn := h.cn
  have gN : (S.N : Int) ≤ 4 := by omega
  have gN0 : 0 ≤ (S.N : Int) := by omega
  have HH := hide h
  have HK := hide hk0
  have hlt0 := hk0.1
  clear h hk0
  go_enter Try.func38, Try.ntmps38
  go_wp2
  go_quiet (fail)
  go_wp2
  go_loopg [16] S.N (fun g i wr => ∃ k : Nat, k + g = S.N ∧ k ≤ k0 ∧ i = .int .i64 k ∧ wr = w.drewN nq)
  case atStart => exact ⟨0, by omega, by omega, rfl, rfl⟩
  case round =>
    obtain ⟨k, hk, hle, rfl, rfl⟩ := hrel
    have hlt : k < S.N := by omega
    have c0 := (HH.out.ip k (by omega)).c0
    have hk' : (k : Int) < 4 := by omega
    by_cases e : k = k0
    · subst e
      have q1 := strT HK.out.2.1
      go_wp2
      exact h1 _
    · have q1 := strF (HK.out.2.2 k (by omega))
      go_wp2
      go_roundg (gk - 1)
      case rel => exact ⟨k + 1, by omega, by omega, by go_num, rfl⟩
      case measure => omega

theorem of25I (h : LS w base s S) (ds : DS S) {k : Nat} (hk : k < S.N) {r : ByteArray} (e : (S.I k).res = r) (R : Ending → World → Prop) (hR : ∀ n, R (.returned (.pointer (some ⟨s, k * 9 + 1, none⟩))) (w.drewN n)) :
    Calls Try.prog 25 #[.pointer (some ⟨s, 0, none⟩), .string r] w R := by
  have HH := hide h
  have hat : AtI S r k := ⟨hk, e, fun j hj e' => ds.ii j k hj hk (e'.trans e.symm)⟩
  have HA := hide hat
  clear h ds e hat
  go_enter Try.func25, Try.ntmps25
  go_wp2_with (go_at_call 38; refine of38I w base s S HH.out r k HA.out _ (fun n => ?_))
  exact hR _
theorem of25O (h : LS w base s S) (ds : DS S) {i : Nat} (hi : i < S.m) {r : ByteArray} (e : (S.O i).res = r) (hr : r.size ≤ maxLen) (R : Ending → World → Prop) (hR : ∀ n, R (.returned (.pointer (some ⟨S.B i, 0, none⟩))) (w.drewN n)) :
    Calls Try.prog 25 #[.pointer (some ⟨s, 0, none⟩), .string r] w R := by
  refine zzof25 w base s S h r hr R (fun n k hk => (ds.io k i hk.1 hi (hk.2.1.trans e.symm)).elim) (fun n i' hn hi' e' => ?_) (fun n _ hn => (hn i hi e).elim)
  rw [h.dist i' i hi' hi (e'.trans e.symm)]
  exact hR n

set_option maxHeartbeats 400000 in
/-- ZZInPlaceCell -/
theorem zzipc27 (k : Nat) (hk : k < 4) (R : Ending → World → Prop) (hR : R (.returned (.pointer (some ⟨s, k * 9 + 1, none⟩))) w) :
    Calls Try.prog 27 #[.pointer (some ⟨s, 0, none⟩), .int .i64 (k : Int)] w R := by
  have hk' : (k : Int) < 4 := by omega
  go_enter Try.func27, Try.ntmps27
  go_wp2
  exact hR

set_option maxHeartbeats 1000000 in
/-- ZZUntoldAt -/
theorem zzut29 (h : LS w base s S) {j : Nat} (hj : j < S.u) (R : Ending → World → Prop) (hR : ∀ w', Below w.heap.size w w' → R (.returned (.tuple #[.string (S.O (S.T j)).res, .bool true])) w') :
    Calls Try.prog 29 #[.pointer (some ⟨s, 0, none⟩), .int .i64 (j : Int)] w R := by
  obtain ⟨g, cap, e, c1, c2⟩ := h.uat hj
  have cu := h.cu
  rw [e] at cu
  have cm := h.cm
  have hit := (h.alloc (.cells #[.string (S.O (S.T j)).res, .pointer (some ⟨S.B (S.T j), 0, none⟩)] 87)).hit (h.tlt j hj)
  have he := eqp80
  have hit2 := ((h.alloc (.cells #[.string (S.O (S.T j)).res, .pointer (some ⟨S.B (S.T j), 0, none⟩)] 87)).below ((Below.refl _ _).drew)).hit (h.tlt j hj)
  have slt := h.lt
  have glt := block_lt_of_cell c1
  have hu := h.hu
  clear e h
  go_enter Try.func29, Try.ntmps29
  go_wp2
  go_region
  go_wp2
  exact ((Below.refl _ _).alloc (Nat.le_refl _) _).drew

/-- what 'add' leaves -/
structure AR (S S' : LD) (s : Nat) (r : ByteArray) (hd : Hold) (pb po : Nat) : Prop where
  ds : DS S'
  alt : (S.N < 4 ∧ S'.N = S.N + 1 ∧ S'.m = S.m ∧ S'.I S.N = ⟨r, hd⟩ ∧ pb = s ∧ po = S.N * 9 + 1) ∨ (S.N = 4 ∧ S'.N = 4 ∧ S'.m = S.m + 1 ∧ S'.O S.m = ⟨r, hd⟩ ∧ S'.F S.m = false ∧ pb = S'.B S.m ∧ po = 0)
  eI : ∀ i, i ≠ S.N → S'.I i = S.I i
  eO : ∀ i, i < S.m → S'.O i = S.O i ∧ S'.B i = S.B i ∧ S'.F i = S.F i
  eu : S'.u = S.u
  eT : S'.T = S.T

theorem AR.ip {S : LD} (ds : DS S) (s : Nat) {r : ByteArray} (hd : Hold) (hN : S.N < 4) (hI : NoI S r) (hO : NoO S r) : AR S (S.setS (S.N + 1) (updI S.I S.N ⟨r, hd⟩)) s r hd s (S.N * 9 + 1) := by
  refine ⟨⟨fun i j hij hj => ?_, fun i j hi hj => ?_⟩, .inl ⟨hN, rfl, rfl, updI_same _ _ _, rfl, rfl⟩, fun i hi => updI_other _ _ hi, fun i hi => ⟨rfl, rfl, rfl⟩, rfl, rfl⟩
  · replace hj : j < S.N + 1 := hj
    show (updI S.I S.N ⟨r, hd⟩ i).res ≠ (updI S.I S.N ⟨r, hd⟩ j).res
    rw [updI_other _ _ (show i ≠ S.N by omega)]
    by_cases e : j = S.N
    · rw [e, updI_same]; exact hI i (by omega)
    · rw [updI_other _ _ e]; exact ds.ii i j hij (by omega)
  · replace hi : i < S.N + 1 := hi
    show (updI S.I S.N ⟨r, hd⟩ i).res ≠ (S.O j).res
    by_cases e : i = S.N
    · rw [e, updI_same]; exact fun e => hO j hj e.symm
    · rw [updI_other _ _ e]; exact ds.io i j (by omega) hj
theorem AR.ot {S : LD} (ds : DS S) (s : Nat) {r : ByteArray} (hd : Hold) (hN : S.N = 4) (hI : NoI S r) (hO : NoO S r) (b mb : Nat) : AR S (S.addO ⟨r, hd⟩ b mb) s r hd b 0 := by
  refine ⟨⟨ds.ii, fun i j hi hj => ?_⟩, .inr ⟨hN, hN, rfl, S.addO_O' _ _ _, S.addO_F' _ _ _, (S.addO_B' _ _ _).symm, rfl⟩, fun i hi => rfl, fun i hi => ⟨S.addO_O _ _ _ hi, S.addO_B _ _ _ hi, S.addO_F _ _ _ hi⟩, rfl, rfl⟩
  replace hj : j < S.m + 1 := hj
  by_cases e : j = S.m
  · rw [e, S.addO_O']; exact hI i hi
  · rw [S.addO_O _ _ _ (by omega)]; exact ds.io i j hi (by omega)
theorem AR.hd {S S' : LD} {s : Nat} {r : ByteArray} {hd : Hold} {pb po : Nat} (a : AR S S' s r hd pb po) {w : World} {base : Nat} (h : LS w base s S') : HdAt w pb po hd := by
  rcases a.alt with ⟨h4, hN, _, e, rfl, rfl⟩ | ⟨h4, hN, hm, e, _, rfl, rfl⟩
  · have := h.ip S.N (by omega)
    rw [e] at this
    exact ⟨this.c1, this.c2, this.c3, this.c4, this.c5, this.c6, this.c7, this.c8⟩
  · have := h.ohd S.m (by omega)
    rw [e] at this
    exact this
theorem AR.of {S S' : LD} {s : Nat} {r : ByteArray} {hd : Hold} {pb po : Nat} (a : AR S S' s r hd pb po) {w : World} {base : Nat} (h : LS w base s S') (hr : r.size ≤ maxLen) (R : Ending → World → Prop) (hR : ∀ n, R (.returned (.pointer (some ⟨pb, po, none⟩))) (w.drewN n)) :
    Calls Try.prog 25 #[.pointer (some ⟨s, 0, none⟩), .string r] w R := by
  rcases a.alt with ⟨h4, hN, _, e, rfl, rfl⟩ | ⟨h4, hN, hm, e, _, rfl, rfl⟩
  · exact of25I h a.ds (by omega) (by rw [e]) R hR
  · exact of25O h a.ds (by omega) (by rw [e]) hr R hR

set_option maxHeartbeats 1000000 in
/-- ZZAdd -/
theorem zzadd26 (w : World) (base s : Nat) (S : LD) (h : LS w base s S) (hb0 : base ≤ w.heap.size) (hm8 : S.m < 8192) (ds : DS S) (r : ByteArray) (hr : r.size ≤ maxLen) (hI : NoI S r) (hO : NoO S r) (hd : Hold) (R : Ending → World → Prop)
    (hR : ∀ w' S' pb po, LS w' base s S' → AR S S' s r hd pb po → Below base w w' → (∀ x, x < w.heap.size → x ≠ s → S.mv ≠ some x → w'.heap[x]? = w.heap[x]?) → R (.returned (.pointer (some ⟨pb, po, none⟩))) w') :
    Calls Try.prog 26 #[.pointer (some ⟨s, 0, none⟩), .string r, .agg #[.string hd.mode, .int .u64 hd.ver, .bool hd.cdr, .bool hd.loc, .bool hd.tol, .bool hd.wri, .int .u64 hd.tok, .int .u64 hd.sqn]] w R := by
  have HH := hide h
  have HW := hide (And.intro ds (And.intro hI hO))
  clear h ds hI hO
  by_cases h4 : S.N < 4
  · go_enter Try.func26, Try.ntmps26
    go_wp2_with (first
      | (go_at_call 40; refine zzin40 hd _ _ (fun w1 hb1 => ?_); have B1 := hide (show LS w1 base s S ∧ Below base w w1 ∧ Below w.heap.size w w1 from ⟨(HH.out.alloc _).below hb1, ((Below.refl base w).alloc hb0 _).trans (hb1.mono (by simp; omega)), boxB hb1⟩); have hz1 : base ≤ w1.heap.size := (by have := hb1.size; simp at this; omega); clear hb1)
      | (go_at_call 39; refine add39i w1 base s S B1.out.1 h4 hz1 r hd _ (fun w2 hl hb hf => ?_); have HF := hide (And.intro hl (And.intro hb hf)); clear hl hb hf))
    obtain ⟨hl, hb, hf⟩ := HF.out
    exact hR w2 _ _ _ hl (AR.ip HW.out.1 s hd h4 HW.out.2.1 HW.out.2.2) (B1.out.2.1.trans hb) (fun x hx hne _ => (hf x (Nat.lt_of_lt_of_le hx B1.out.2.2.size) hne).trans (B1.out.2.2.block x hx))
  · have hN4 : S.N = 4 := by have := HH.out.hN; omega
    go_enter Try.func26, Try.ntmps26
    go_wp2_with (first
      | (go_at_call 40; refine zzin40 hd _ _ (fun w1 hb1 => ?_); have B1 := hide (show LS w1 base s S ∧ Below base w w1 ∧ Below w.heap.size w w1 from ⟨(HH.out.alloc _).below hb1, ((Below.refl base w).alloc hb0 _).trans (hb1.mono (by simp; omega)), boxB hb1⟩); have hz1 : base ≤ w1.heap.size := (by have := hb1.size; simp at this; omega); clear hb1)
      | (go_at_call 39; refine add39o w1 base s S B1.out.1 hN4 hz1 r hr HW.out.2.2 hm8 hd _ (fun w2 b mb hl hb hf hge => ?_); have HF := hide (And.intro hl (And.intro hb hf)); clear hl hb hf))
    obtain ⟨hl, hb, hf⟩ := HF.out
    exact hR w2 _ _ _ hl (AR.ot HW.out.1 s hd hN4 HW.out.2.1 HW.out.2.2 b mb) (B1.out.2.1.trans hb) (fun x hx hne hnm => (hf x (Nat.lt_of_lt_of_le hx B1.out.2.2.size) hne hnm).trans (B1.out.2.2.block x hx))

/-- k pointers have been laid from offset 0 of block b on -/
structure PtrRow (wr : World) (b t n : Nat) (P : Nat → Addr) (k : Nat) : Prop where
  row : Row wr b t n
  at' : ∀ j, j < k → wr.cell? ⟨b, j, none⟩ = some (.pointer (some (P j)))
theorem PtrRow.step {wr w1 : World} {b t n : Nat} {P : Nat → Addr} {k : Nat} (h : PtrRow wr b t n P k) (hk : k < n) (hb : w1.heap[b]? = wr.heap[b]?) : PtrRow (w1.setCell ⟨b, k, none⟩ (.pointer (some (P k)))) b t n P (k + 1) := by
  have hr : Row w1 b t n := h.row.of_block hb
  refine ⟨hr.setCell _ _, fun j hj => ?_⟩
  by_cases e : j = k
  · subst e; exact setCell_cell_same hr hk
  · exact (setCell_cell_other (.inr (by omega))).trans ((cell_of_block hb).trans (h.at' j (by omega)))
theorem PtrRow.of_block {wr w1 : World} {b t n : Nat} {P : Nat → Addr} {k : Nat} (h : PtrRow wr b t n P k) (hb : w1.heap[b]? = wr.heap[b]?) : PtrRow w1 b t n P k :=
  ⟨h.row.of_block hb, fun j hj => (cell_of_block hb).trans (h.at' j hj)⟩

end Go.Proofs.Qxb6605402a
