import Derived.Test.Qxb6600489aPl
namespace Go.Proofs.Qxb6600489a
open Go.RowKit
set_option linter.unusedVariables false
set_option linter.unusedSimpArgs false

theorem PI.start {P O : Nat → Tr} {no : Nat} {Y : Nat → Int} {ny : Nat} {w : World} {tb fb : Nat} {c1 c2 : Array Value} (h1 : w.heap[tb]? = some (.cells c1 42)) (h2 : w.heap[fb]? = some (.cells c2 4)) (s1 : c1.size = ny * 3) (s2 : c2.size = ny) (h3 : ∀ i, i < ny → c2[i]? = some (.bool false)) (ne : tb ≠ fb) : PI P O no Y ny w tb fb 0 :=
  ⟨⟨_, h1, s1⟩, ⟨_, h2, s2⟩, fun j hj hn i hi => (by cases hi), fun j hj => (by rw [cell_of_heap h2, h3 j hj]; simp [fil, fi]), ne⟩

theorem heap_new2 (w : World) (o o2 : Obj) : ((w.alloc o).alloc o2).heap[w.heap.size + 1]? = some o2 := by
  have := heap_new (w.alloc o) o2
  simpa using this
theorem heap_new3 (w : World) (o o2 o3 : Obj) : (((w.alloc o).alloc o2).alloc o3).heap[w.heap.size + 1 + 1]? = some o3 := by
  have := heap_new ((w.alloc o).alloc o2) o3
  simpa using this
theorem own_blkeq {e : TypeId} {w w' : World} {base : Nat} {v : Value} {n : Nat} {xs : List Value} (h : w.ownsRow base e 1 v n xs) (hb : ∀ b, base ≤ b → b < w.heap.size → w'.heap[b]? = w.heap[b]?) : w'.ownsRow base e 1 v n xs :=
  ⟨h.1, by
    rcases h.2 with h0 | ⟨g, c, cur, e, h1, h2, h3⟩
    · exact .inl h0
    · exact .inr ⟨g, c, cur, e, h1, (hb g h1 (heap_lt h2)).trans h2, h3⟩⟩
theorem notgood1 {P O : Nat → Tr} {np no : Nat} {Y : Nat → Int} {ny k : Nat} (hk : k < np) (h4 : (P k).ty ≠ 4) (h : ∀ i, i < ny → Y i ≠ (P k).ty) : ¬ Good P O np no Y ny := fun hg => by
  obtain ⟨j, hj, e⟩ := hg.1 k hk h4
  exact h j hj e
theorem G_dh {P : Nat → Tr} {k : Nat} (h : (P k).ty = 4) : G P (k + 1) = G P k ++ [(P k).id] := by show (if (P k).ty = 4 then _ else _) = _; rw [if_pos h]
theorem G_ot {P : Nat → Tr} {k : Nat} (h : (P k).ty ≠ 4) : G P (k + 1) = G P k := by show (if (P k).ty = 4 then _ else _) = _; rw [if_neg h]
/-- what holds behind k rounds of pick -/
structure PR (P O : Nat → Tr) (no : Nat) (Y : Nat → Int) (ny : Nat) (w wr : World) (k : Nat) (ag : Option Addr) (cg : Nat) : Prop where
  pi : PI P O no Y ny wr (w.heap.size + 1) (w.heap.size + 1 + 1) k
  own : wr.ownsRow (w.heap.size + 3) 45 1 (.slice ag (G P k).length cg) (G P k).length ((G P k).map (Value.int .u16))
  ok : ∀ i, i < k → (P i).ty ≠ 4 → ∃ j, j < ny ∧ Y j = (P i).ty
  bel : Below w.heap.size w wr
  sz : w.heap.size + 3 ≤ wr.heap.size

theorem PR.dh {P O : Nat → Tr} {no : Nat} {Y : Nat → Int} {ny : Nat} {w wr w' : World} {k : Nat} {ag : Option Addr} {cg g cap' : Nat} {o1 o2 : Obj} (h : PR P O no Y ny w wr k ag cg) (h4 : (P k).ty = 4)
    (k1 : w'.ownsRow (w.heap.size + 3) 45 1 (.slice (some ⟨g, 0, none⟩) ((G P k).length + 1) cap') ((G P k).length + 1) ((G P k).map (Value.int .u16) ++ [.int .u16 (P k).id])) (k2 : ((wr.alloc o1).alloc o2).grownBy w' (Value.slice ag (G P k).length cg).ownBlock) :
    PR P O no Y ny w w' (k + 1) (some ⟨g, 0, none⟩) cap' := by
  have hs := h.sz
  have ob : ∀ x, x < w.heap.size + 3 → w'.heap[x]? = wr.heap[x]? := fun x hx => by
    rw [k2.block x (by simp; omega) (fun e => by have := (own_blk h.own e.symm).1; omega)]
    rw [heap_old _ (by simp; omega), heap_old _ (by omega)]
  have hz : wr.heap.size + 2 ≤ w'.heap.size := by have := k2.size; simp at this; omega
  refine ⟨(h.pi.dh h4).keep (ob _ (by omega)) (ob _ (by omega)), ?_, fun i hi h0 => ?_, ?_, by omega⟩
  · have e1 : (G P (k + 1)).length = (G P k).length + 1 := by rw [G_dh h4]; simp
    have e2 : (G P (k + 1)).map (Value.int .u16) = (G P k).map (Value.int .u16) ++ [.int .u16 (P k).id] := by rw [G_dh h4]; simp
    rw [e1, e2]; exact k1
  · by_cases e : i = k
    · subst e; exact (h0 h4).elim
    · exact h.ok i (by omega) h0
  · exact ((h.bel.alloc (by omega) o1).alloc (by simp; omega) o2).grown k2 (by simp; omega) (fun x e => by have := (own_blk h.own e).1; omega)
/-- a round that stores nothing -/
theorem PR.stay {P O : Nat → Tr} {no : Nat} {Y : Nat → Int} {ny : Nat} {w wr w' : World} {k i : Nat} {ag : Option Addr} {cg : Nat} (h : PR P O no Y ny w wr k ag cg) (hi : i < ny) (h4 : (P k).ty ≠ 4) (h1 : Y i = (P k).ty) (h2 : ∀ m, m < i → Y m ≠ (P k).ty) (e : fi P O no Y i (k + 1) = fi P O no Y i k)
    (hb : Below wr.heap.size wr w') : PR P O no Y ny w w' (k + 1) ag cg := by
  have hs := h.sz
  have hz := hb.size
  refine ⟨(h.pi.stay h1 h2 e).keep (hb.block _ (by omega)) (hb.block _ (by omega)), ?_, fun m hm h0 => ?_, h.bel.trans (hb.mono (by omega)), by omega⟩
  · rw [G_ot h4]; exact own_blkeq h.own fun b _ hb' => hb.block b hb'
  · by_cases em : m = k
    · subst em; exact ⟨i, hi, h1⟩
    · exact h.ok m (by omega) h0
/-- a round that stores -/
theorem PR.store {P O : Nat → Tr} {no : Nat} {Y : Nat → Int} {ny : Nat} {w wr w2 : World} {k i : Nat} {ag : Option Addr} {cg : Nat} (h : PR P O no Y ny w wr k ag cg) (hi : i < ny) (h4 : (P k).ty ≠ 4) (h1 : Y i = (P k).ty) (h2 : ∀ m, m < i → Y m ≠ (P k).ty) (hf : fil P O no Y i k = false) (ha : has O no (P k) = true)
    (hb : Below wr.heap.size wr w2) :
    PR P O no Y ny w ((((w2.setCell ⟨w.heap.size + 1, i * 3, none⟩ (.int .u8 (P k).ty)).setCell ⟨w.heap.size + 1, i * 3 + 1, none⟩ (.int .u16 (P k).id)).setCell ⟨w.heap.size + 1, i * 3 + 2, none⟩ (.int .u16 (P k).kl)).setCell ⟨w.heap.size + 1 + 1, i, none⟩ (.bool true)) (k + 1) ag cg := by
  have hs := h.sz
  have hz := hb.size
  refine ⟨(h.pi.keep (hb.block _ (by omega)) (hb.block _ (by omega))).store hi h4 h1 h2 hf ha, ?_, fun m hm h0 => ?_, ?_, by simp; omega⟩
  · rw [G_ot h4]
    refine own_blkeq h.own fun b hb1 hb' => ?_
    rw [setCell_other _ _ (by simp; omega), setCell_other _ _ (by simp; omega), setCell_other _ _ (by simp; omega), setCell_other _ _ (by simp; omega)]
    exact hb.block b hb'
  · by_cases em : m = k
    · subst em; exact ⟨i, hi, h1⟩
    · exact h.ok m (by omega) h0
  · exact ((((h.bel.trans (hb.mono (by omega))).setCell (p := ⟨w.heap.size + 1, i * 3, none⟩) (by simp) _).setCell (p := ⟨w.heap.size + 1, i * 3 + 1, none⟩) (by simp) _).setCell (p := ⟨w.heap.size + 1, i * 3 + 2, none⟩) (by simp) _).setCell (p := ⟨w.heap.size + 1 + 1, i, none⟩) (by simp; omega) _

set_option maxHeartbeats 4000000 in
set_option maxRecDepth 100000 in
theorem pick15 (ap ao ay : Option Addr) (np no ny cp co cy : Nat) (P O : Nat → Tr) (Y : Nat → Int) (z0 z1 : Int) (w : World) (hnp : np ≤ 4096) (hno : no ≤ 4096) (hny : ny ≤ 4096)
    (hP : TsAt w ap np P) (hO : TsAt w ao no O) (hY : BtAt .u8 w ay ny Y)
    (R : Ending → World → Prop) (hbad : ∀ w', ¬ Good P O np no Y ny → Below w.heap.size w w' → R (.returned (.tuple #[.slice none 0 0, .slice none 0 0, .bool false])) w')
    (hgood : ∀ w' tb ag cg, Good P O np no Y ny → (∀ j, j < ny → ∃ i, fi P O no Y j np = some i ∧ TrAt w' tb (j * 3) (P i)) → tb < w'.heap.size → BtAt .u16 w' ag (G P np).length (fun i => (G P np).getD i 0) → Below w.heap.size w w' →
      R (.returned (.tuple #[.slice (some ⟨tb, 0, none⟩) ny ny, .slice ag (G P np).length cg, .bool true])) w') :
    Calls Try.prog 15 #[.agg #[.int .u8 z0, .int .u8 z1, .slice none 0 0, .slice ap np cp], .slice ao no co, .slice ay ny cy] w R := by
  obtain ⟨c1, hc1, mk1⟩ := make_any Try.underlying25 Try.sz42 ny (by omega) (by omega)
  obtain ⟨c2, hc2, hcf, mk2⟩ := make_false ny (by omega)
  have HP := hide hP
  have HO := hide hO
  have HY := hide hY
  have HBad := hide hbad
  have HGood := hide hgood
  clear hP hO hY hbad hgood
  go_enter Try.func15, Try.ntmps15
  go_wp2
  go_loopg [6, 7, 22] np (fun g t6 t7 t22 wr => ∃ (k : Nat) (ag : Option Addr) (cg : Nat), k + g = np ∧ t22 = .int .i64 k ∧ t6 = .slice (some ⟨w.heap.size + 1, 0, none⟩) ny ny ∧ t7 = .slice ag (G P k).length cg ∧ PR P O no Y ny w wr k ag cg)
  case atStart =>
    refine ⟨0, none, 0, by omega, rfl, rfl, rfl, ⟨PI.start (c1 := c1) (c2 := c2) ?_ (heap_new3 _ _ _ _) hc1 hc2 hcf (by omega), World.ownsRow_nil _ _ _ _, fun i hi => by omega, (((Below.refl _ _).alloc (Nat.le_refl _) _).alloc (by simp) _).alloc (by simp; omega) _, by simp⟩⟩
    rw [heap_old _ (by simp)]
    exact heap_new2 _ _ _
  case round =>
    clear mk1 mk2
    obtain ⟨k, ag, cg, hk, rfl, rfl, rfl, hr⟩ := hrel
    have hlen : (G P k).length ≤ 4096 := Nat.le_trans (G_len P k) (by omega)
    have hsz := hr.sz
    have hB := hr.bel
    by_cases hlt : k < np
    · obtain ⟨b, o, rfl, hbl, hc⟩ := (HP.out.below hB) k hlt
      obtain ⟨q0, q1, q2⟩ := hc
      have HY1 : Hid (∀ ob, BtAt .u8 (wr.alloc ob) ay ny Y) := fun ob => HY.out.below (hB.alloc (by omega) ob)
      have HO1 : Hid (∀ ob, TsAt (wr.alloc ob) ao no O) := fun ob => HO.out.below (hB.alloc (by omega) ob)
      by_cases h4 : (P k).ty = 4
      · have HR := hide hr
        have HG := hide (G_dh h4)
        have H4 := hide h4
        have hgl : Hid ((G P (k + 1)).length = (G P k).length + 1) := by show _ = _; rw [G_dh h4]; simp
        rw [h4] at q0
        clear hr hB
        go_wp2_with (at_builtin; refine wpList_app16 Try.underlying30 Try.sz45 rfl (.tmp 29) (.tmp 32) rfl (w.heap.size + 3) _ _ _ rfl ((HR.out.own.alloc _).alloc _) (wr.heap.size + 1) (P k).id rfl (heap_new2 _ _ _) (by omega) (by simp; omega) ?_; intro g cap' w' k1 k2; have H1 := hide (And.intro k1 k2); clear k1 k2)
        go_roundg (gk - 1)
        case rel =>
          refine ⟨k + 1, some ⟨g, 0, none⟩, cap', by omega, by go_num, rfl, by rw [hgl.out], ?_⟩
          exact HR.out.dh H4.out H1.out.1 H1.out.2
        case measure => omega
      · have hne : ((P k).ty == 4) = false := by simp; exact h4
        have HR := hide hr
        have hG : Hid ((G P (k + 1)).length = (G P k).length) := by show _ = _; rw [G_ot h4]
        clear hr hB
        go_upto_region 9 with (go_at_call 17; refine index17 ay Y ny cy (P k).ty hny _ (HY1.out _) _ (fun q => ?_) (fun i q1 q2 q3 => ?_))
        · have HQ := hide q
          clear q
          go_wp2_with fail
          go_ret3
          exact HBad.out _ (notgood1 hlt h4 HQ.out) (HR.out.bel.alloc (by omega) _)
        · have fc := HR.out.pi.fl i q1
          have hfb : w.heap.size + 1 + 1 < wr.heap.size := by omega
          have htb : w.heap.size + 1 < wr.heap.size := by omega
          have qi : ((i : Nat) : Int) < (ny : Int) := by omega
          have HQ := hide (And.intro q2 q3)
          clear q2 q3
          cases hf : fil P O no Y i k with
          | true =>
            rw [hf] at fc
            have HF := hide hf
            clear hf
            go_wp2_with fail
            go_roundg (gk - 1)
            case rel =>
              refine ⟨k + 1, ag, cg, by omega, by go_num, rfl, by rw [hG.out], HR.out.stay q1 h4 HQ.out.1 HQ.out.2 ?_ ((Below.refl _ _).alloc (Nat.le_refl _) _)⟩
              obtain ⟨_, m, hm⟩ := fil_yes HF.out
              rw [hm, fi_some hm]
            case measure => omega
          | false =>
            rw [hf] at fc
            have HF := hide hf
            clear hf
            cases ha : has O no (P k) with
            | false =>
              have HA := hide ha
              clear ha
              go_wp2_with (go_at_call 18; refine contains18 ao O no co (P k) hno _ (HO1.out _) _ (fun w2 b2 => ?_); rw [HA.out]; have HB2 := hide b2; clear b2)
              go_roundg (gk - 1)
              case rel =>
                refine ⟨k + 1, ag, cg, by omega, by go_num, rfl, by rw [hG.out], HR.out.stay q1 h4 HQ.out.1 HQ.out.2 (fi_notacc HA.out) (((Below.refl _ _).alloc (Nat.le_refl _) _).trans (HB2.out.mono (by simp)))⟩
              case measure => omega
            | true =>
              have HA := hide ha
              clear ha
              go_upto_region 12 with (go_at_call 18; refine contains18 ao O no co (P k) hno _ (HO1.out _) _ (fun w2 b2 => ?_); rw [HA.out]; have HB2 := hide b2; clear b2)
              have hb2 := HB2.out
              have hBB : Below wr.heap.size wr w2 := ((Below.refl _ _).alloc (Nat.le_refl _) _).trans (hb2.mono (by simp))
              have hnew := (hb2.block wr.heap.size (by simp)).trans (heap_new wr _)
              have t0 := cell_of_heap hnew 0
              have t1 := cell_of_heap hnew 1
              have t2 := cell_of_heap hnew 2
              have rt := HR.out.pi.rt.of_block (hBB.block _ htb)
              have rf := HR.out.pi.rf.of_block (hBB.block _ hfb)
              have fzt := rt.fz
              have fzf := rf.fz
              obtain ⟨x0, d0⟩ := rt.ex (o := i * 3) (by omega)
              obtain ⟨x1, d1⟩ := rt.ex (o := i * 3 + 1) (by omega)
              obtain ⟨x2, d2⟩ := rt.ex (o := i * 3 + 2) (by omega)
              obtain ⟨x3, d3⟩ := rf.ex (o := i) (by omega)
              have HBB := hide hBB
              clear hb2 hBB hnew rt rf fc
              go_wp2_with fail
              go_roundg (gk - 1)
              case rel =>
                refine ⟨k + 1, ag, cg, by omega, by go_num, rfl, by rw [hG.out], HR.out.store q1 h4 HQ.out.1 HQ.out.2 HF.out HA.out HBB.out⟩
              case measure => omega
    · obtain rfl : k = np := by omega
      have HR := hide hr
      clear hr hB hlt hk
      go_wp2_with (go_at_call 19; refine contains19 _ (w.heap.size + 1 + 1) (fun j => fil P O no Y j k) ny ny hny wr (fun _ => rfl) HR.out.pi.fl _ (fun q => ?_) (fun i q1 q2 => ?_); all_goals (try have HQ := hide q); all_goals (try have HQ2 := hide q2))
      · clear q
        go_ret3
        exact HGood.out wr _ _ _ ⟨HR.out.ok, HQ.out⟩ (HR.out.pi.good HQ.out) HR.out.pi.rt.lt (BtAt.of_own HR.out.own) HR.out.bel
      · clear q2
        go_ret3
        exact HBad.out wr (fun hg => by have := hg.2 i q1; have := HQ2.out; simp_all) HR.out.bel

end Go.Proofs.Qxb6600489a
