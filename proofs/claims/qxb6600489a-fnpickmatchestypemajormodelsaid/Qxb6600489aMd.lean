import Derived.Test.Qxb6600489aPk
namespace Go.Proofs.Qxb6600489a
open Go.RowKit
set_option linter.unusedVariables false
set_option linter.unusedSimpArgs false

set_option maxHeartbeats 1000000 in
/-- ZZpick -/
theorem zpick8 (ap ao ay : Option Addr) (np no ny cp co cy : Nat) (P O : Nat → Tr) (Y : Nat → Int) (z0 z1 : Int) (w : World) (hnp : np ≤ 4096) (hno : no ≤ 4096) (hny : ny ≤ 4096)
    (hP : TsAt w ap np P) (hO : TsAt w ao no O) (hY : BtAt .u8 w ay ny Y)
    (R : Ending → World → Prop) (hbad : ∀ w', ¬ Good P O np no Y ny → Below w.heap.size w w' → R (.returned (.tuple #[.slice none 0 0, .slice none 0 0, .bool false])) w')
    (hgood : ∀ w' tb ag cg, Good P O np no Y ny → (∀ j, j < ny → ∃ i, fi P O no Y j np = some i ∧ TrAt w' tb (j * 3) (P i)) → tb < w'.heap.size → BtAt .u16 w' ag (G P np).length (fun i => (G P np).getD i 0) → Below w.heap.size w w' →
      R (.returned (.tuple #[.slice (some ⟨tb, 0, none⟩) ny ny, .slice ag (G P np).length cg, .bool true])) w') :
    Calls Try.prog 8 #[.agg #[.int .u8 z0, .int .u8 z1, .slice none 0 0, .slice ap np cp], .slice ao no co, .slice ay ny cy] w R := by
  have b0 : Below w.heap.size w (w.alloc (.cells #[.int .u8 z0, .int .u8 z1, .slice none 0 0, .slice ap np cp] 29)) := (Below.refl _ _).alloc (Nat.le_refl _) _
  have HP := hide (hP.below b0)
  have HO := hide (hO.below b0)
  have HY := hide (hY.below b0)
  have HBad := hide hbad
  have HGood := hide hgood
  have HB0 := hide b0
  clear hP hO hY hbad hgood b0
  go_enter Try.func8, Try.ntmps8
  go_wp2_with (go_at_call 15; refine pick15 ap ao ay np no ny cp co cy P O Y z0 z1 _ hnp hno hny HP.out HO.out HY.out _ (fun w' q b => ?_) (fun w' tb ag cg q1 q2 q3 q4 b => ?_))
  · go_ret3
    exact HBad.out w' q (HB0.out.trans (b.mono (by simp)))
  · go_ret3
    exact HGood.out w' tb ag cg q1 q2 q3 q4 (HB0.out.trans (b.mono (by simp)))

theorem fi_mono {P O : Nat → Tr} {no : Nat} {Y : Nat → Int} {j i k : Nat} (h : fi P O no Y j k = some i) : ∀ {n}, k ≤ n → fi P O no Y j n = some i
  | 0, hn => by obtain rfl : k = 0 := by omega
                exact h
  | n + 1, hn => by
    by_cases e : k = n + 1
    · subst e; exact h
    · exact fi_some (fi_mono h (n := n) (by omega))
/-- the model's rows -/
structure MI (P O : Nat → Tr) (no np : Nat) (Y : Nat → Int) (ny : Nat) (w wr : World) (ab cb k : Nat) : Prop where
  ra : Row wr ab 4 np
  ac : ∀ i, i < np → wr.cell? ⟨ab, i, none⟩ = some (.bool (has O no (P i)))
  rc : Row wr cb 44 (ny * 3)
  ch : ∀ m, m < k → ∃ i, fi P O no Y m np = some i ∧ TrAt wr cb (m * 3) (P i)
  ok : ∀ m, m < k → fil P O no Y m np = true
  ne : ab ≠ cb
  bel : Below w.heap.size w wr
  la : w.heap.size ≤ ab
  lc : w.heap.size ≤ cb
theorem MI.drew {P O : Nat → Tr} {no np : Nat} {Y : Nat → Int} {ny : Nat} {w wr : World} {ab cb k : Nat} (h : MI P O no np Y ny w wr ab cb k) (n : Nat) : MI P O no np Y ny w (wr.drewN n) ab cb k :=
  ⟨h.ra.of_block rfl, h.ac, h.rc.of_block rfl, fun m hm => by obtain ⟨i, h1, h2⟩ := h.ch m hm; exact ⟨i, h1, h2.keep rfl⟩, h.ok, h.ne, Below_drewN h.bel n, h.la, h.lc⟩
theorem MI.store {P O : Nat → Tr} {no np : Nat} {Y : Nat → Int} {ny : Nat} {w wr : World} {ab cb k i : Nat} (h : MI P O no np Y ny w wr ab cb k) (hk : k < ny) (hf : fi P O no Y k np = some i) (hn : Nd Y k) :
    MI P O no np Y ny w (((wr.setCell ⟨cb, k * 3, none⟩ (.int .u8 (P i).ty)).setCell ⟨cb, k * 3 + 1, none⟩ (.int .u16 (P i).id)).setCell ⟨cb, k * 3 + 2, none⟩ (.int .u16 (P i).kl)) ab cb (k + 1) := by
  have ea : (((wr.setCell ⟨cb, k * 3, none⟩ (.int .u8 (P i).ty)).setCell ⟨cb, k * 3 + 1, none⟩ (.int .u16 (P i).id)).setCell ⟨cb, k * 3 + 2, none⟩ (.int .u16 (P i).kl)).heap[ab]? = wr.heap[ab]? :=
    (setCell_other _ _ h.ne).trans ((setCell_other _ _ h.ne).trans (setCell_other _ _ h.ne))
  refine ⟨h.ra.of_block ea, fun j hj => (cell_blk ea).trans (h.ac j hj), ((h.rc.setCell _ _).setCell _ _).setCell _ _, fun m hm => ?_, fun m hm => ?_, h.ne, ?_, h.la, h.lc⟩
  · by_cases e : m = k
    · subst e; exact ⟨i, hf, TrAt.put h.rc (by omega) (P i)⟩
    · obtain ⟨i', h1, h2⟩ := h.ch m (by omega)
      exact ⟨i', h1, TrAt.out (P i) h2 (.inl (by omega))⟩
  · by_cases e : m = k
    · subst e; rw [fil_fi hn, hf]; rfl
    · exact h.ok m (by omega)
  · exact ((h.bel.setCell (p := ⟨cb, k * 3, none⟩) h.lc _).setCell (p := ⟨cb, k * 3 + 1, none⟩) h.lc _).setCell (p := ⟨cb, k * 3 + 2, none⟩) h.lc _
theorem notgood2 {P O : Nat → Tr} {np no : Nat} {Y : Nat → Int} {ny k : Nat} (hk : k < ny) (h : fil P O no Y k np = false) : ¬ Good P O np no Y ny := fun hg => by
  have := hg.2 k hk
  rw [h] at this; cases this
theorem fil_no {P O : Nat → Tr} {np no : Nat} {Y : Nat → Int} {k : Nat} (h : ¬ Nd Y k) : fil P O no Y k np = false := by
  unfold fil; rw [(nd_not _ _).2 h, Bool.false_and]

set_option maxHeartbeats 8000000 in
set_option maxRecDepth 100000 in
theorem model10 (ap ao ay : Option Addr) (np no ny cp co cy : Nat) (P O : Nat → Tr) (Y : Nat → Int) (w : World) (hnp : np ≤ 4096) (hno : no ≤ 4096) (hny : ny ≤ 4096)
    (hP : TsAt w ap np P) (hO : TsAt w ao no O) (hY : BtAt .u8 w ay ny Y)
    (R : Ending → World → Prop) (hbad : ∀ w', ¬ Good P O np no Y ny → Below w.heap.size w w' → R (.returned (.tuple #[.bool false, .slice none 0 0, .slice none 0 0])) w')
    (hgood : ∀ w' tb ag cg, Good P O np no Y ny → (∀ j, j < ny → ∃ i, fi P O no Y j np = some i ∧ TrAt w' tb (j * 3) (P i)) → tb < w'.heap.size → BtAt .u16 w' ag (G P np).length (fun i => (G P np).getD i 0) → Below w.heap.size w w' →
      R (.returned (.tuple #[.bool true, .slice (some ⟨tb, 0, none⟩) ny ny, .slice ag (G P np).length cg])) w') :
    Calls Try.prog 10 #[.slice ap np cp, .slice ao no co, .slice ay ny cy] w R := by
  have HP := hide hP
  have HO := hide hO
  have HY := hide hY
  have HBad := hide hbad
  have HGood := hide hgood
  clear hP hO hY hbad hgood
  go_enter Try.func10, Try.ntmps10
  go_wp2
  go_loopg [9, 10, 11] np (fun g t9 _ _ wr => ∃ k : Nat, k + g = np ∧ t9 = .int .i64 k ∧ Hid (∀ i, i < k → (P i).ty ≠ 4 → ∃ j, j < ny ∧ Y j = (P i).ty) ∧ Below w.heap.size w wr)
  case atStart => exact ⟨0, by omega, rfl, (fun i hi => by omega : ∀ i, i < 0 → (P i).ty ≠ 4 → ∃ j, j < ny ∧ Y j = (P i).ty), Below.refl _ _⟩
  case round =>
    obtain ⟨k, hk, rfl, hok, hb⟩ := hrel
    by_cases hlt : k < np
    · obtain ⟨b, o, rfl, hbl, hc⟩ := (HP.out.below hb) k hlt
      have q0 := hc.c0
      by_cases h4 : (P k).ty = 4
      · rw [h4] at q0
        have HB := hide hb
        have H4 := hide h4
        clear hb hc h4
        go_wp2
        go_roundg (np - (k + 1))
        case rel => exact ⟨k + 1, by omega, by go_num, (fun i hi h0 => by
          by_cases e : i = k
          · subst e; exact (h0 H4.out).elim
          · exact hok.out i (by omega) h0 : ∀ i, i < k + 1 → (P i).ty ≠ 4 → ∃ j, j < ny ∧ Y j = (P i).ty), HB.out⟩
        case measure => omega
      · have hne : ((P k).ty == 4) = false := by simp; exact h4
        have HB := hide hb
        clear hb hc
        go_wp2
        go_loopg [10, 11] ny (fun g t10 t11 wr => ∃ j : Nat, j + g = ny ∧ t11 = .int .i64 j ∧ t10 = .bool false ∧ Hid (∀ m, m < j → Y m ≠ (P k).ty) ∧ Below w.heap.size w wr)
        case atStart => exact ⟨0, by omega, rfl, rfl, (fun m hm => by omega : ∀ m, m < 0 → Y m ≠ (P k).ty), HB.out⟩
        case round =>
          clear HB q0
          obtain ⟨j, hj, rfl, rfl, hno', hb⟩ := hrel
          by_cases hlj : j < ny
          · obtain ⟨b2, o2, rfl, hbl2, hc2⟩ := (HY.out.below hb) j hlj
            obtain ⟨b3, o3, e3, hbl3, hc3⟩ := (HP.out.below hb) k hlt
            cases e3
            have q0 := hc3.c0
            have HB := hide hb
            clear hb hc3
            by_cases e : Y j = (P k).ty
            · rw [e] at hc2
              have HE := hide e
              clear e
              go_wp2
              go_quiet (fail)
              go_wp2
              go_roundg (np - (k + 1))
              case rel => exact ⟨k + 1, by omega, by go_num, (fun i hi h0 => by
                by_cases e : i = k
                · subst e; exact ⟨j, hlj, HE.out⟩
                · exact hok.out i (by omega) h0 : ∀ i, i < k + 1 → (P i).ty ≠ 4 → ∃ j, j < ny ∧ Y j = (P i).ty), Below_drewN HB.out _⟩
              case measure => omega
            · have hne2 : (Y j == (P k).ty) = false := by simp; exact e
              go_wp2
              go_quiet (fail)
              go_wp2
              go_roundg (gk - 1)
              case rel => exact ⟨j + 1, by omega, by go_num, rfl, (fun m hm => by
                by_cases e' : m = j
                · subst e'; exact e
                · exact hno'.out m (by omega) : ∀ m, m < j + 1 → Y m ≠ (P k).ty), Below_drewN HB.out _⟩
              case measure => omega
          · obtain rfl : j = ny := by omega
            have HB := hide hb
            clear hb hlj hj
            go_wp2
            go_ret3
            exact HBad.out _ (notgood1 hlt h4 hno'.out) HB.out
    · obtain rfl : k = np := by omega
      have HB := hide hb
      have hs0 := hb.size
      clear hb hlt hk
      obtain ⟨c1, hc1, hcf, mk1⟩ := make_false k (by omega)
      obtain ⟨c2, hc2, mk2⟩ := make_any Try.underlying22 Try.sz44 ny (by omega) (by omega)
      obtain ⟨ab, eab⟩ : ∃ ab, wr.heap.size = ab := ⟨_, rfl⟩
      go_wp2
      go_loopg [13] k (fun g t wr => ∃ i : Nat, i + g = k ∧ t = .int .i64 i ∧ Row wr ab 4 k ∧ (∀ m, m < i → wr.cell? ⟨ab, m, none⟩ = some (.bool (has O no (P m)))) ∧ Below w.heap.size w wr)
      case atStart => exact ⟨0, by omega, rfl, ⟨c1, by rw [← eab]; exact heap_new _ _, hc1⟩, fun m hm => by omega, HB.out.alloc hs0 _⟩
      case round =>
        clear HB mk1
        obtain ⟨i, hi, rfl, hr, hac, hb⟩ := hrel
        by_cases hlt : i < k
        · obtain ⟨b, o, rfl, hbl, hc⟩ := (HP.out.below hb) i hlt
          obtain ⟨q0, q1, q2⟩ := hc
          have HO1 := hide (HO.out.below hb)
          have H1 := hide (And.intro hr (And.intro hac hb))
          have hrl := hr.lt
          clear hr hac hb
          go_wp2_with (go_at_call 16; refine has16 ao O no co (P i) hno wr HO1.out _ (fun w2 b2 => ?_); have r2 := H1.out.1.of_block (b2.block ab hrl); have fz := r2.fz; obtain ⟨x0, d0⟩ := r2.ex (o := i) hlt; have HB2 := hide b2; clear b2 r2)
          go_roundg (gk - 1)
          case rel =>
            have hs := H1.out.2.2.size
            have r2 := H1.out.1.of_block (HB2.out.block ab hrl)
            refine ⟨i + 1, by omega, by go_num, r2.setCell _ _, fun m hm => ?_, (H1.out.2.2.trans (HB2.out.mono hs)).setCell (p := ⟨ab, i, none⟩) (by simp; omega) _⟩
            by_cases e : m = i
            · subst e; exact cell_same r2 hlt
            · exact (cell_other (.inr e)).trans ((cell_blk (HB2.out.block ab hrl)).trans (H1.out.2.1 m (by omega)))
          case measure => omega
        · obtain rfl : i = k := by omega
          obtain ⟨cb, ecb⟩ : ∃ cb, wr.heap.size = cb := ⟨_, rfl⟩
          have hrl := hr.lt
          have hs1 := hb.size
          have hM : Hid (MI P O no i Y ny w (wr.alloc (.cells c2 44)) ab cb 0) := ⟨hr.of_block (heap_old _ hrl), fun m hm => (cell_blk (heap_old _ hrl)).trans (hac m hm), ⟨c2, by rw [← ecb]; exact heap_new _ _, hc2⟩, fun m hm => by omega, fun m hm => by omega, by omega, hb.alloc hs1 _, by omega, by omega⟩
          clear hr hac hb hlt hi eab
          go_wp2
          go_loopg [15, 16, 17, 18] ny (fun g t15 _ _ _ wr => ∃ j : Nat, j + g = ny ∧ t15 = .int .i64 j ∧ MI P O no i Y ny w wr ab cb j)
          case atStart => exact ⟨0, by omega, rfl, hM.out⟩
          case round =>
            clear hM mk2 ecb hrl hs1
            obtain ⟨j, hj, rfl, hm⟩ := hrel
            by_cases hlj : j < ny
            · obtain ⟨b, o, rfl, hbl, hc⟩ := (HY.out.below hm.bel) j hlj
              by_cases h4 : Y j = 4
              · rw [h4] at hc
                have HM := hide hm
                have H4 := hide h4
                clear hm h4
                go_wp2
                go_ret3
                exact HBad.out _ (notgood2 hlj (fil_no (fun hn => hn.1 H4.out))) HM.out.bel
              · have hne : (Y j == 4) = false := by simp; exact h4
                have HM := hide hm
                clear hm
                go_wp2
                go_loopg [16] j (fun g t16 wr => ∃ m : Nat, m + g = j ∧ t16 = .int .i64 m ∧ Hid (∀ x, x < m → Y x ≠ Y j) ∧ MI P O no i Y ny w wr ab cb j)
                case atStart => exact ⟨0, by omega, rfl, (fun x hx => by omega : ∀ x, x < 0 → Y x ≠ Y j), HM.out⟩
                case round =>
                  clear HM hc
                  obtain ⟨m, hm', rfl, hd, hm⟩ := hrel
                  have hbY := HY.out.below hm.bel
                  obtain ⟨b1, o1, e1, hbl1, hc1⟩ := hbY j hlj
                  cases e1
                  by_cases hlm : m < j
                  · obtain ⟨b2, o2, e2, hbl2, hc2'⟩ := hbY m (by omega)
                    cases e2
                    have HM := hide hm
                    clear hm hbY
                    by_cases e : Y m = Y j
                    · rw [e] at hc2'
                      have HE := hide e
                      clear e
                      go_wp2
                      go_quiet (fail)
                      go_wp2
                      go_ret3
                      exact HBad.out _ (notgood2 hlj (fil_no (fun hn => hn.2 m hlm HE.out))) (Below_drewN HM.out.bel _)
                    · have hne2 : (Y m == Y j) = false := by simp; exact e
                      go_wp2
                      go_quiet (fail)
                      go_wp2
                      go_roundg (gk - 1)
                      case rel => exact ⟨m + 1, by omega, by go_num, (fun x hx => by
                        by_cases e' : x = m
                        · subst e'; exact e
                        · exact hd.out x (by omega) : ∀ x, x < m + 1 → Y x ≠ Y j), HM.out.drew _⟩
                      case measure => omega
                  · obtain rfl : m = j := by omega
                    have hnd : Hid (Nd Y m) := ⟨h4, hd.out⟩
                    have HM := hide hm
                    clear hm hbY hlm hm' hd
                    go_wp2
                    go_loopg [17, 18] i (fun g t17 t18 wr => ∃ n : Nat, n + g = i ∧ t18 = .int .i64 n ∧ t17 = .bool false ∧ Hid (fi P O no Y m n = none) ∧ MI P O no i Y ny w wr ab cb m)
                    case atStart => exact ⟨0, by omega, rfl, rfl, rfl, HM.out⟩
                    case round =>
                      clear HM hc1
                      obtain ⟨n, hn, rfl, rfl, hfn, hm⟩ := hrel
                      by_cases hln : n < i
                      · obtain ⟨b1, o1, e1, hbl1, hc1⟩ := (HY.out.below hm.bel) m hlj
                        cases e1
                        obtain ⟨b3, o3, e3, hbl3, hc3⟩ := (HP.out.below hm.bel) n hln
                        subst e3
                        obtain ⟨p0, p1, p2⟩ := hc3
                        have pa := hm.ac n hln
                        have fzc := hm.rc.fz
                        obtain ⟨x0, d0⟩ := hm.rc.ex (o := m * 3) (by omega)
                        obtain ⟨x1, d1⟩ := hm.rc.ex (o := m * 3 + 1) (by omega)
                        obtain ⟨x2, d2⟩ := hm.rc.ex (o := m * 3 + 2) (by omega)
                        have HM := hide hm
                        clear hm
                        by_cases e : (P n).ty = Y m
                        · have HE := hide e
                          have p0' := p0
                          rw [e] at p0'
                          clear p0
                          cases ha : has O no (P n) with
                          | true =>
                            rw [ha] at pa
                            have HA := hide ha
                            clear ha e
                            go_wp2
                            go_quiet (fail)
                            go_wp2
                            go_roundg (ny - (m + 1))
                            case rel =>
                              refine ⟨m + 1, by omega, by go_num, ?_⟩
                              have q := ((HM.out.drew nq).store (i := n) hlj (fi_mono (fi_new hfn.out HE.out HA.out) (by omega)) hnd.out)
                              rw [HE.out] at q
                              exact q
                            case measure => omega
                          | false =>
                            rw [ha] at pa
                            have HA := hide ha
                            clear ha e
                            go_wp2
                            go_quiet (fail)
                            go_wp2
                            go_roundg (gk - 1)
                            case rel => exact ⟨n + 1, by omega, by go_num, rfl, (by rw [fi_notacc HA.out]; exact hfn.out : fi P O no Y m (n + 1) = none), HM.out.drew _⟩
                            case measure => omega
                        · have hne2 : ((P n).ty == Y m) = false := by simp; exact e
                          go_wp2
                          go_quiet (fail)
                          go_wp2
                          go_roundg (gk - 1)
                          case rel => exact ⟨n + 1, by omega, by go_num, rfl, (by rw [fi_other e]; exact hfn.out : fi P O no Y m (n + 1) = none), HM.out.drew _⟩
                          case measure => omega
                      · obtain rfl : n = i := by omega
                        have HM := hide hm
                        clear hm hln hn
                        go_wp2
                        go_ret3
                        exact HBad.out _ (notgood2 hlj (by rw [fil_fi hnd.out, hfn.out]; rfl)) HM.out.bel
            · obtain rfl : j = ny := by omega
              obtain ⟨w8, rfl⟩ : ∃ w8, w8 = wr := ⟨_, rfl⟩
              have HM := hide hm
              have hg : Hid (Good P O i no Y j) := ⟨hok.out, hm.ok⟩
              have hab := hm.ra.lt
              have hcb := hm.rc.lt
              have hs8 := hm.bel.size
              clear hm hlj hj
              go_wp2
              go_loopg [19, 20] i (fun g t19 t20 wr => ∃ (n : Nat) (ag : Option Addr) (cg : Nat), n + g = i ∧ t20 = .int .i64 n ∧ t19 = .slice ag (G P n).length cg ∧ wr.ownsRow w8.heap.size 40 1 (.slice ag (G P n).length cg) (G P n).length ((G P n).map (Value.int .u16)) ∧ Below w8.heap.size w8 wr)
              case atStart => exact ⟨0, none, 0, by omega, rfl, rfl, World.ownsRow_nil _ _ _ _, Below.refl _ _⟩
              case round =>
                obtain ⟨n, ag, cg, hn, rfl, rfl, ho, hb⟩ := hrel
                by_cases hln : n < i
                · have hlen : (G P n).length ≤ 4096 := Nat.le_trans (G_len P n) (by omega)
                  obtain ⟨b3, o3, rfl, hbl3, hc3⟩ := ((HP.out.below HM.out.bel).below hb) n hln
                  have p0 := hc3.c0
                  have p1 := hc3.c1
                  have hs9 := hb.size
                  by_cases h4 : (P n).ty = 4
                  · rw [h4] at p0
                    have HR := hide (And.intro ho hb)
                    have H4 := hide h4
                    have hgl : Hid ((G P (n + 1)).length = (G P n).length + 1) := by show _ = _; rw [G_dh h4]; simp
                    clear ho hb hc3 h4
                    go_wp2_with (at_builtin; refine wpList_app16 Try.underlying35 Try.sz40 rfl (.tmp 140) (.tmp 146) rfl w8.heap.size _ _ _ rfl (HR.out.1.alloc _) wr.heap.size (P n).id rfl (heap_new _ _) (by omega) (by simp; omega) ?_; intro g cap' w' k1 k2; have H1 := hide (And.intro k1 k2); clear k1 k2)
                    go_roundg (gk - 1)
                    case rel =>
                      refine ⟨n + 1, some ⟨g, 0, none⟩, cap', by omega, by go_num, by rw [hgl.out], ?_, (HR.out.2.alloc hs9 _).grown H1.out.2 (by simp; omega) (fun x e => (own_blk HR.out.1 e).1)⟩
                      have e2 : (G P (n + 1)).map (Value.int .u16) = (G P n).map (Value.int .u16) ++ [.int .u16 (P n).id] := by rw [G_dh H4.out]; simp
                      rw [hgl.out, e2]; exact H1.out.1
                    case measure => omega
                  · have hne : ((P n).ty == 4) = false := by simp; exact h4
                    have HR := hide (And.intro ho hb)
                    have hgl : Hid (G P (n + 1) = G P n) := G_ot h4
                    clear ho hb hc3
                    go_wp2
                    go_roundg (gk - 1)
                    case rel => exact ⟨n + 1, ag, cg, by omega, by go_num, by rw [hgl.out], by rw [hgl.out]; exact HR.out.1, HR.out.2⟩
                    case measure => omega
                · obtain rfl : n = i := by omega
                  have HR := hide (And.intro ho hb)
                  clear ho hb hln hn
                  go_wp2
                  go_ret3
                  have hb := HR.out.2
                  refine HGood.out wr cb ag cg hg.out (fun m hm => ?_) (Nat.lt_of_lt_of_le hcb hb.size) (BtAt.of_own HR.out.1) (HM.out.bel.trans (hb.mono hs8))
                  obtain ⟨x, h1, h2⟩ := HM.out.ch m hm
                  exact ⟨x, h1, h2.keep (hb.block _ hcb)⟩

end Go.Proofs.Qxb6600489a
