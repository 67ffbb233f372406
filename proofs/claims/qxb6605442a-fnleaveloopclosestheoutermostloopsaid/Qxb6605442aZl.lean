import Derived.Test.Qxb6605442aLv
namespace Go.Proofs.Qxb6605442a
open Go.RowKit
set_option linter.unusedVariables false
set_option linter.unusedSimpArgs false

/-- a row of ints, k of them laid -/
structure IR (w : World) (b n k : Nat) (f : Nat → Int) : Prop where
  row : Row w b 3 n
  at' : ∀ i, i < k → w.cell? ⟨b, i, none⟩ = some (.int .i64 (f i))
structure BR (w : World) (b n k : Nat) (f : Nat → Bool) : Prop where
  row : Row w b 4 n
  at' : ∀ i, i < k → w.cell? ⟨b, i, none⟩ = some (.bool (f i))
theorem IR.keep {w w' : World} {b n k : Nat} {f : Nat → Int} (h : IR w b n k f) (e : w'.heap[b]? = w.heap[b]?) : IR w' b n k f := ⟨h.row.of_block e, fun i hi => (cell_blk e).trans (h.at' i hi)⟩
theorem BR.keep {w w' : World} {b n k : Nat} {f : Nat → Bool} (h : BR w b n k f) (e : w'.heap[b]? = w.heap[b]?) : BR w' b n k f := ⟨h.row.of_block e, fun i hi => (cell_blk e).trans (h.at' i hi)⟩
theorem IR.step {w : World} {b n k : Nat} {f : Nat → Int} (h : IR w b n k f) (hk : k < n) : IR (w.setCell ⟨b, k, none⟩ (.int .i64 (f k))) b n (k + 1) f := ⟨h.row.setCell _ _, fun i hi => by
  by_cases e : i = k
  · subst e; exact cell_same h.row hk
  · exact (cell_other (.inr e)).trans (h.at' i (by omega))⟩
theorem BR.step {w : World} {b n k : Nat} {f : Nat → Bool} (h : BR w b n k f) (hk : k < n) : BR (w.setCell ⟨b, k, none⟩ (.bool (f k))) b n (k + 1) f := ⟨h.row.setCell _ _, fun i hi => by
  by_cases e : i = k
  · subst e; exact cell_same h.row hk
  · exact (cell_other (.inr e)).trans (h.at' i (by omega))⟩
theorem IR.bt {w : World} {b n : Nat} {f : Nat → Int} (h : IR w b n n f) : BtAt .i64 w (some ⟨b, 0, none⟩) n f := fun i hi => ⟨b, 0, rfl, h.row.lt, by rw [Nat.zero_add]; exact h.at' i hi⟩
theorem BR.bo {w : World} {b n : Nat} {f : Nat → Bool} (h : BR w b n n f) : BoAt w (some ⟨b, 0, none⟩) n f := fun i hi => ⟨b, 0, rfl, h.row.lt, by rw [Nat.zero_add]; exact h.at' i hi⟩
theorem heap_old {w : World} {i : Nat} (o : Obj) (h : i < w.heap.size) : (w.alloc o).heap[i]? = w.heap[i]? := Below.heap_alloc _ _ _ h
theorem results_tmp5 {fn : Func} {t u v x y : Tmp} (h : fn.results = #[.tmp t, .tmp u, .tmp v, .tmp x, .tmp y]) (tmps : Array Value) (P : Program) (w : World) :
    (results fn tmps).run P w = .ok (.tuple #[tmps.getD t undef, tmps.getD u undef, tmps.getD v undef, tmps.getD x undef, tmps.getD y undef]) w := by
  simp [results, h]

theorem JK.start (w : World) (J : Nat) (cnt lj : Int) (c0 cJ : Array Value) (T : Nat → Int) (h0 : c0.size = 30) (hJ : cJ.size = J * 4) (e1 : c0[12]? = some (.slice (some ⟨w.heap.size + 1, 0, none⟩) J J)) (e2 : c0[13]? = some (.int .i64 cnt)) (e3 : c0[18]? = some (.int .i64 lj)) :
    JK ((w.alloc (.cells c0 61)).alloc (.cells cJ 63)) w.heap.size (w.heap.size + 1) J cnt lj 0 T := by
  have hs : ((w.alloc (.cells c0 61)).alloc (.cells cJ 63)).heap[w.heap.size]? = some (.cells c0 61) := (heap_old _ (by simp)).trans (heap_new _ _)
  have hj : ((w.alloc (.cells c0 61)).alloc (.cells cJ 63)).heap[w.heap.size + 1]? = some (.cells cJ 63) := by
    have := heap_new (w.alloc (.cells c0 61)) (.cells cJ 63)
    simpa using this
  exact ⟨⟨_, hs, h0⟩, ⟨_, hj, hJ⟩, (cell_of_heap hs _).trans e1, (cell_of_heap hs _).trans e2, (cell_of_heap hs _).trans e3, fun i hi => by omega, by omega⟩
theorem JK.setO {w : World} {s jb J : Nat} {cnt lj : Int} {nj : Nat} {T : Nat → Int} (h : JK w s jb J cnt lj nj T) {o : Nat} (v : Value) (h1 : o ≠ 12) (h2 : o ≠ 13) (h3 : o ≠ 18) : JK (w.setCell ⟨s, o, none⟩ v) s jb J cnt lj nj T := by
  have hj : (w.setCell ⟨s, o, none⟩ v).heap[jb]? = w.heap[jb]? := setCell_other _ _ h.ne.symm
  exact ⟨h.row.setCell _ _, h.rj.of_block hj, (cell_other (.inr h1.symm)).trans h.cj, (cell_other (.inr h2.symm)).trans h.cc, (cell_other (.inr h3.symm)).trans h.cl, fun i hi => (cell_blk hj).trans (h.t i hi), h.ne⟩
/-- the locals' row is made and laid -/
theorem LK.start {w : World} {s : Nat} (hr : Row w s 61 30) (K : Nat) (ia : Option Addr) (il ic : Nat) (cK : Array Value) (hK : cK.size = K * 10) (tq th : Nat → Int) (jo : Nat → Bool) :
    LK (((w.setCell ⟨s, 26, none⟩ (.slice ia il ic)).setCell ⟨s, 20, none⟩ (.slice (some ⟨w.heap.size, 0, none⟩) K K)).alloc (.cells cK 65)) s w.heap.size K ia il ic 0 tq th jo := by
  have hlt := hr.lt
  have hz : ((w.setCell ⟨s, 26, none⟩ (.slice ia il ic)).setCell ⟨s, 20, none⟩ (.slice (some ⟨w.heap.size, 0, none⟩) K K)).heap.size = w.heap.size := by simp
  have r1 := hr.setCell ⟨s, 26, none⟩ (.slice ia il ic)
  have hs := heap_old (w := (w.setCell ⟨s, 26, none⟩ (.slice ia il ic)).setCell ⟨s, 20, none⟩ (.slice (some ⟨w.heap.size, 0, none⟩) K K)) (i := s) (.cells cK 65) (by rw [hz]; exact hlt)
  have hl := heap_new ((w.setCell ⟨s, 26, none⟩ (.slice ia il ic)).setCell ⟨s, 20, none⟩ (.slice (some ⟨w.heap.size, 0, none⟩) K K)) (.cells cK 65)
  rw [hz] at hl
  exact ⟨(r1.setCell _ _).of_block hs, ⟨_, hl, hK⟩, (cell_blk hs).trans (cell_same r1 (by omega)), (cell_blk hs).trans ((cell_other (.inr (by omega))).trans (cell_same hr (by omega))), fun k hk => by omega, fun k hk => by omega, fun k hk => by omega, by omega⟩

set_option maxHeartbeats 4000000 in
set_option maxRecDepth 100000 in
theorem zleave17 (w : World) (J K q : Nat) (cnt made last : Int) (l0 : Nat) (aj ax at' ah ao : Option Addr) (cj cx ct ch co : Nat) (X : Nat → Nat) (T tq th : Nat → Int) (jo : Nat → Bool)
    (hlast : IntKind.i64.wrap (cnt - 1) = last) (hT : BtAt .i64 w aj J T) (hX : BtAt .u32 w ax q (fun i => (X i : Int))) (hA : BtAt .i64 w at' K tq) (hH : BtAt .i64 w ah K th) (hO : BoAt w ao K jo) (hXK : ∀ i, i < q → X i < K)
    (hJ16 : J ≤ 65536) (hK16 : K ≤ 65536) (hq16 : q ≤ 65536) (hl63 : l0 ≤ 9223372036854775807) (hqc : q ≤ cx)
    (R : Ending → World → Prop) (hR : ∀ w' r1 r2 r3 r4 d1 d2 d3 d4, BtAt .i64 w' r1 J (tk T l0 last J) → BtAt .i64 w' r2 K (aK X tq made q) → BtAt .i64 w' r3 K (hK X th jo last q) → BoAt w' r4 K (jK X jo q) → Below w.heap.size w w' →
      R (.returned (.tuple #[.slice r1 J d1, .slice r2 K d2, .slice r3 K d3, .slice r4 K d4, .int .i64 0])) w') :
    Calls Try.prog 17 #[.int .i64 cnt, .int .i64 l0, .slice aj J cj, .slice ax q cx, .slice at' K ct, .slice ah K ch, .slice ao K co, .int .i64 made] w R := by
  obtain ⟨cJ, hcJ, mkJ⟩ := make_any Try.underlying51 Try.sz63 J (by omega) (by omega)
  obtain ⟨cK, hcK, mkK⟩ := make_any Try.underlying54 Try.sz65 K (by omega) (by omega)
  obtain ⟨c1, hc1, mk1⟩ := make_any Try.underlying30 Try.sz3 J (by omega) (by omega)
  obtain ⟨c2, hc2, mk2⟩ := make_any Try.underlying30 Try.sz3 K (by omega) (by omega)
  obtain ⟨c4, hc4, mk4⟩ := make_any Try.underlying32 Try.sz4 K (by omega) (by omega)
  have HT := hide hT
  have HX := hide hX
  have HA := hide hA
  have HH := hide hH
  have HO := hide hO
  clear hT hX hA hH hO
  go_enter Try.func17, Try.ntmps17
  go_wp2
  go_loopg [22] J (fun g t wr => ∃ k : Nat, k + g = J ∧ t = .int .i64 k ∧ JK wr w.heap.size (w.heap.size + 1) J cnt l0 k T ∧ Below w.heap.size w wr)
  case atStart => exact ⟨0, by omega, rfl, JK.start w J cnt l0 _ cJ T rfl hcJ rfl rfl rfl, ((Below.refl _ _).alloc (Nat.le_refl _) _).alloc (by simp) _⟩
  case round =>
    clear mkJ
    obtain ⟨k, hk, rfl, hj, hb⟩ := hrel
    by_cases hlt : k < J
    · have cj := hj.cj
      have fz := hj.rj.fz
      obtain ⟨x0, d0⟩ := hj.rj.ex (o := k * 4 + 3) (by omega)
      obtain ⟨b, o, rfl, hbs, hc⟩ := (HT.out.below hb) k hlt
      have hbne : b ≠ w.heap.size + 1 := by obtain ⟨b', o', e', hb', _⟩ := HT.out k hlt; cases e'; omega
      have H1 := hide (And.intro hj hb)
      clear hj hb
      go_wp2
      go_region
      go_wp2
      go_roundg (gk - 1)
      case rel =>
        refine ⟨k + 1, by omega, by go_num, ?_, ?_⟩
        · exact (H1.out.1.put hlt (T k) (fun j hj hne => ⟨by omega, rfl⟩) rfl).keep rfl rfl
        · exact (H1.out.2.setCell (p := ⟨w.heap.size + 1, k * 4 + 3, none⟩) (by simp) _).drew
      case measure => omega
    · obtain rfl : k = J := by omega
      have hr := hj.row
      have fz := hj.row.fz
      obtain ⟨x1, d1⟩ := hj.row.ex (o := 20) (by omega)
      obtain ⟨x2, d2⟩ := hj.row.ex (o := 26) (by omega)
      have H1 := hide (And.intro hj hb)
      have hslt := hr.lt
      have hs0 := H1.out.2.size
      obtain ⟨lb, elb⟩ : ∃ lb, wr.heap.size = lb := ⟨_, rfl⟩
      have HJ2 : Hid (JK (((wr.setCell ⟨w.heap.size, 26, none⟩ (.slice ax q cx)).setCell ⟨w.heap.size, 20, none⟩ (.slice (some ⟨lb, 0, none⟩) K K)).alloc (.cells cK 65)) w.heap.size (w.heap.size + 1) k cnt l0 k T) :=
        ((hj.setO _ (by omega) (by omega) (by omega)).setO _ (by omega) (by omega) (by omega)).keep (heap_old _ (by simp; exact hslt)) (heap_old _ (by simp; exact hj.rj.lt))
      have HL2 : Hid (LK (((wr.setCell ⟨w.heap.size, 26, none⟩ (.slice ax q cx)).setCell ⟨w.heap.size, 20, none⟩ (.slice (some ⟨lb, 0, none⟩) K K)).alloc (.cells cK 65)) w.heap.size lb K ax q cx 0 tq th jo) := by
        subst elb; exact LK.start hr K ax q cx cK hcK tq th jo
      have HB2 : Hid (Below w.heap.size w (((wr.setCell ⟨w.heap.size, 26, none⟩ (.slice ax q cx)).setCell ⟨w.heap.size, 20, none⟩ (.slice (some ⟨lb, 0, none⟩) K K)).alloc (.cells cK 65))) :=
        ((hb.setCell (p := ⟨w.heap.size, 26, none⟩) (Nat.le_refl _) _).setCell (p := ⟨w.heap.size, 20, none⟩) (Nat.le_refl _) _).alloc (by simp; exact hb.size) _
      have njl : w.heap.size + 1 ≠ lb := by have := hj.rj.lt; omega
      have hlbw : w.heap.size < lb := by omega
      clear hj hb hr hk hlt H1 hs0
      go_wp2
      go_loopg [23] K (fun g t wr => ∃ i : Nat, i + g = K ∧ t = .int .i64 i ∧ JK wr w.heap.size (w.heap.size + 1) k cnt l0 k T ∧ LK wr w.heap.size lb K ax q cx i tq th jo ∧ Below w.heap.size w wr)
      case atStart => exact ⟨0, by omega, rfl, HJ2.out, HL2.out, HB2.out⟩
      case round =>
        clear mkK HJ2 HL2 HB2 d1 d2 fz elb hslt
        obtain ⟨i, hi, rfl, hj, hl, hb⟩ := hrel
        by_cases hlt : i < K
        · have clo := hl.clo
          have fz := hl.rl.fz
          obtain ⟨x1, d1⟩ := hl.rl.ex (o := i * 10 + 6) (by omega)
          obtain ⟨x2, d2⟩ := hl.rl.ex (o := i * 10 + 7) (by omega)
          obtain ⟨x3, d3⟩ := hl.rl.ex (o := i * 10 + 9) (by omega)
          obtain ⟨b1, o1, rfl, hbs1, g1⟩ := HA.out i hlt
          obtain ⟨b2, o2, rfl, hbs2, g2⟩ := HH.out i hlt
          obtain ⟨b3, o3, rfl, hbs3, g3⟩ := HO.out i hlt
          replace g1 := (hb.cell (p := ⟨b1, o1 + i, none⟩) hbs1).trans g1
          replace g2 := (hb.cell (p := ⟨b2, o2 + i, none⟩) hbs2).trans g2
          replace g3 := (hb.cell (p := ⟨b3, o3 + i, none⟩) hbs3).trans g3
          have m1 : b1 ≠ lb := by omega
          have m2 : b2 ≠ lb := by omega
          have m3 : b3 ≠ lb := by omega
          have m4 : w.heap.size ≠ lb := by omega
          have H1 := hide (And.intro hj (And.intro hl hb))
          clear hj hl hb
          go_wp2
          go_region
          go_wp2
          go_region
          go_wp2
          go_region
          go_wp2
          go_roundg (gk - 1)
          case rel =>
            refine ⟨i + 1, by omega, by go_num, ?_, ?_, ?_⟩
            · exact H1.out.1.keep ((setCell_other _ _ m4).trans ((setCell_other _ _ m4).trans (setCell_other _ _ m4))) ((setCell_other _ _ njl).trans ((setCell_other _ _ njl).trans (setCell_other _ _ njl)))
            · exact (H1.out.2.1.more hlt (tq i) (th i) (jo i) rfl rfl rfl).keep rfl rfl
            · exact ((((((H1.out.2.2.setCell (p := ⟨lb, i * 10 + 6, none⟩) (by simp <;> omega) _).drew).setCell (p := ⟨lb, i * 10 + 7, none⟩) (by simp <;> omega) _).drew).setCell (p := ⟨lb, i * 10 + 9, none⟩) (by simp <;> omega) _).drew)
          case measure => omega
        · obtain rfl : i = K := by omega
          have H1 := hide (And.intro hj (And.intro hl hb))
          have hsz := hb.size
          have hlb : lb < wr.heap.size := hl.rl.lt
          have hs1 : w.heap.size + 1 < wr.heap.size := hj.rj.lt
          have HXa : Hid (∀ ob, ∀ j, j < q → ∃ b o, ax = some ⟨b, o, none⟩ ∧ b < w.heap.size ∧ (wr.alloc ob).cell? ⟨b, o + j, none⟩ = some (.int .u32 (X j : Int))) := fun ob j hj' => by
            obtain ⟨b, o, e, hb', hc⟩ := HX.out j hj'
            exact ⟨b, o, e, hb', ((hb.alloc hsz ob).cell (p := ⟨b, o + j, none⟩) hb').trans hc⟩
          clear hj hl hb hi hlt
          go_upto_region 18 with (go_at_call 22; refine leave22 _ w.heap.size (w.heap.size + 1) lb wr.heap.size k i q cnt last made l0 ax cx X T tq th jo w.heap.size hlast (H1.out.1.keep (heap_old _ (by omega)) (heap_old _ (by omega))) (H1.out.2.1.keep (heap_old _ (by omega)) (heap_old _ (by omega))) (HXa.out _) hXK ((cell_of_heap (heap_new _ _) _).trans rfl) (by omega) (by omega) njl (by omega) (by omega) (Nat.le_refl _) hJ16 hK16 hq16 hl63 hqc _ (fun w3 ia' ic' j3 l3 b3 => ?_); have H3 := hide (And.intro j3 (And.intro l3 ((H1.out.2.2.alloc hsz _).trans b3))); clear j3 l3 b3)
          obtain ⟨j3, l3, b3⟩ := H3.out
          have cj3 := j3.cj
          obtain ⟨ra, era⟩ : ∃ ra, w3.heap.size = ra := ⟨_, rfl⟩
          have q1 : w.heap.size < ra := by rw [← era]; exact j3.row.lt
          have q2 : w.heap.size + 1 < ra := by rw [← era]; exact j3.rj.lt
          have q3 : lb < ra := by rw [← era]; exact l3.rl.lt
          have hb3 := b3.size
          clear j3 l3 b3 H1 HXa
          go_wp2
          go_loopg [25] k (fun g t wr => ∃ m : Nat, m + g = k ∧ t = .int .i64 m ∧ IR wr ra k m (tk T l0 last k) ∧ JK wr w.heap.size (w.heap.size + 1) k cnt l0 k (tk T l0 last k) ∧ LK wr w.heap.size lb i ia' 0 ic' i (aK X tq made q) (hK X th jo last q) (jK X jo q) ∧ Below w.heap.size w wr)
          case atStart =>
            refine ⟨0, by omega, rfl, ⟨⟨_, by rw [← era]; exact heap_new _ _, by rw [hc1, Nat.mul_one]⟩, fun m hm => by omega⟩, H3.out.1.keep (heap_old _ (by omega)) (heap_old _ (by omega)), H3.out.2.1.keep (heap_old _ (by omega)) (heap_old _ (by omega)), H3.out.2.2.alloc hb3 _⟩
          case round =>
            clear mk1 H3 cj3 era
            obtain ⟨m, hm, rfl, hi1, hj, hl, hb⟩ := hrel
            by_cases hlt : m < k
            · have cj1 := hj.cj
              have ct1 := hj.t m hlt
              have fz := hi1.row.fz
              obtain ⟨x5, d5⟩ := hi1.row.ex (o := m) hlt
              have m1 : w.heap.size ≠ ra := by omega
              have m2 : w.heap.size + 1 ≠ ra := by omega
              have m3 : lb ≠ ra := by omega
              have H1 := hide (And.intro hi1 (And.intro hj (And.intro hl hb)))
              clear hi1 hj hl hb
              go_wp2
              go_roundg (gk - 1)
              case rel => exact ⟨m + 1, by omega, by go_num, H1.out.1.step hlt, H1.out.2.1.keep (setCell_other _ _ m1) (setCell_other _ _ m2), H1.out.2.2.1.keep (setCell_other _ _ m1) (setCell_other _ _ m3), H1.out.2.2.2.setCell (p := ⟨ra, m, none⟩) (by simp <;> omega) _⟩
              case measure => omega
            · obtain rfl : m = k := by omega
              have cj1 := hj.cj
              have clo1 := hl.clo
              obtain ⟨rb, erb⟩ : ∃ rb, wr.heap.size = rb := ⟨_, rfl⟩
              have r1 : ra < rb := by rw [← erb]; exact hi1.row.lt
              have hsb := hb.size
              have hwb : w.heap.size < wr.heap.size := by omega
              have hwb2 : w.heap.size < rb := by omega
              have hwb3 : w.heap.size ≠ rb := by omega
              have H1 := hide (And.intro hi1 (And.intro hj (And.intro hl hb)))
              clear hi1 hj hl hb hm hlt
              go_wp2
              go_loopg [29] i (fun g t wr => ∃ n : Nat, n + g = i ∧ t = .int .i64 n ∧ IR wr ra m m (tk T l0 last m) ∧ IR wr rb i n (aK X tq made q) ∧ IR wr (rb + 1) i n (hK X th jo last q) ∧ BR wr (rb + 2) i n (jK X jo q) ∧ LK wr w.heap.size lb i ia' 0 ic' i (aK X tq made q) (hK X th jo last q) (jK X jo q) ∧ Below w.heap.size w wr)
              case atStart =>
                obtain ⟨hi1, hj, hl, hb⟩ := H1.out
                have z1 : (wr.alloc (.cells c2 3)).heap.size = rb + 1 := by simp [erb]
                have z2 : ((wr.alloc (.cells c2 3)).alloc (.cells c2 3)).heap.size = rb + 2 := by simp [erb]
                have old : ∀ b, b < rb → (((wr.alloc (.cells c2 3)).alloc (.cells c2 3)).alloc (.cells c4 4)).heap[b]? = wr.heap[b]? := fun b hb' => (heap_old _ (by omega)).trans ((heap_old _ (by omega)).trans (heap_old _ (by omega)))
                refine ⟨0, by omega, rfl, hi1.keep (old _ (by omega)), ⟨⟨c2, ?_, by rw [hc2, Nat.mul_one]⟩, fun m hm => by omega⟩, ⟨⟨c2, ?_, by rw [hc2, Nat.mul_one]⟩, fun m hm => by omega⟩, ⟨⟨c4, ?_, by rw [hc4, Nat.mul_one]⟩, fun m hm => by omega⟩, hl.keep (old _ (by omega)) (old _ (by omega)), ((hb.alloc hsb _).alloc (by omega) _).alloc (by omega) _⟩
                · rw [heap_old _ (by omega), heap_old _ (by omega), ← erb]; exact heap_new _ _
                · rw [heap_old _ (by omega), ← z1]; exact heap_new _ _
                · rw [← z2]; exact heap_new _ _
              case round =>
                clear mk2 mk4 H1 cj1 clo1 erb
                obtain ⟨n, hn, rfl, hi1, h1, h2, h3, hl, hb⟩ := hrel
                by_cases hlt : n < i
                · have clo1 := hl.clo
                  have ca := hl.a n hlt
                  have chh := hl.h n hlt
                  have cjj := hl.j n hlt
                  have fz1 := h1.row.fz
                  have fz2 := h2.row.fz
                  have fz3 := h3.row.fz
                  obtain ⟨x5, d5⟩ := h1.row.ex (o := n) hlt
                  obtain ⟨x6, d6⟩ := h2.row.ex (o := n) hlt
                  obtain ⟨x7, d7⟩ := h3.row.ex (o := n) hlt
                  have m1 : w.heap.size ≠ rb := by omega
                  have m2 : w.heap.size ≠ rb + 1 := by omega
                  have m3 : w.heap.size ≠ rb + 2 := by omega
                  have m4 : lb ≠ rb := by omega
                  have m5 : lb ≠ rb + 1 := by omega
                  have m6 : lb ≠ rb + 2 := by omega
                  have H1 := hide (And.intro hi1 (And.intro h1 (And.intro h2 (And.intro h3 (And.intro hl hb)))))
                  clear hi1 h1 h2 h3 hl hb
                  go_wp2
                  go_roundg (gk - 1)
                  case rel =>
                    obtain ⟨hi1, h1, h2, h3, hl, hb⟩ := H1.out
                    refine ⟨n + 1, by omega, by go_num, ?_, ?_, ?_, ?_, ?_, ?_⟩
                    · exact hi1.keep ((setCell_other _ _ (by simp <;> omega)).trans ((setCell_other _ _ (by simp <;> omega)).trans (setCell_other _ _ (by simp <;> omega))))
                    · exact (h1.step hlt).keep ((setCell_other _ _ (by simp <;> omega)).trans (setCell_other _ _ (by simp <;> omega)))
                    · exact ((h2.keep (setCell_other _ _ (by simp <;> omega))).step hlt).keep (setCell_other _ _ (by simp <;> omega))
                    · exact (h3.keep ((setCell_other _ _ (by simp <;> omega)).trans (setCell_other _ _ (by simp <;> omega)))).step hlt
                    · exact hl.keep ((setCell_other _ _ m3).trans ((setCell_other _ _ m2).trans (setCell_other _ _ m1))) ((setCell_other _ _ m6).trans ((setCell_other _ _ m5).trans (setCell_other _ _ m4)))
                    · exact ((hb.setCell (p := ⟨rb, n, none⟩) (by simp <;> omega) _).setCell (p := ⟨rb + 1, n, none⟩) (by simp <;> omega) _).setCell (p := ⟨rb + 2, n, none⟩) (by simp <;> omega) _
                  case measure => omega
                · obtain rfl : n = i := by omega
                  have clo1 := hl.clo
                  have ci1 := hl.ci
                  have H1 := hide (And.intro hi1 (And.intro h1 (And.intro h2 (And.intro h3 hb))))
                  clear hi1 h1 h2 h3 hl hb hn hlt
                  go_wp2
                  go_region
                  go_wp2
                  refine bodyPost_ret (results_tmp5 rfl _ _ _) rfl ?_
                  obtain ⟨hi1, h1, h2, h3, hb⟩ := H1.out
                  have e : ∀ b : Nat, wr.drew.heap[b]? = wr.heap[b]? := fun _ => rfl
                  exact hR wr.drew _ _ _ _ _ _ _ _ (hi1.keep (e _)).bt (h1.keep (e _)).bt (h2.keep (e _)).bt (h3.keep (e _)).bo hb.drew

end Go.Proofs.Qxb6605442a
