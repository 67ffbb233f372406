import Derived.Test.Qxb6605402aTl
import Derived.Test.Qxb6605402aMk
namespace Go.Proofs.Qxb6605402a
open Go.RowKit Go.Maps
set_option linter.unusedVariables false
set_option linter.unusedSimpArgs false

/-- the k-th lock in place is overwritten -/
def updI (I : Nat → Lk) (k : Nat) (l : Lk) : Nat → Lk := fun i => if i = k then l else I i
theorem updI_same (I : Nat → Lk) (k : Nat) (l : Lk) : updI I k l k = l := by simp [updI]
theorem updI_other (I : Nat → Lk) {k i : Nat} (l : Lk) (h : i ≠ k) : updI I k l i = I i := by simp [updI, h]
theorem updI_updI (I : Nat → Lk) (k : Nat) (l l' : Lk) : updI (updI I k l) k l' = updI I k l' := by
  funext i; simp only [updI]; split <;> rfl
/-- a lock in place and its holding are written -/
theorem LS.setLkI {w : World} {base s : Nat} {S : LD} (h : LS w base s S) {k N : Nat} (hk : k < 4) (hN : N ≤ 4) (l : Lk) {w' : World} (eo : ∀ b, b ≠ s → w'.heap[b]? = w.heap[b]?) (hr : Row w' s 79 39)
    (hl : LkAt w' s (k * 9) l) (hc : ∀ o, (o < k * 9 ∨ k * 9 + 9 ≤ o) → o ≠ 36 → w'.cell? ⟨s, o, none⟩ = w.cell? ⟨s, o, none⟩) (hn : w'.cell? ⟨s, 36, none⟩ = some (.int .i64 (N : Int))) : LS w' base s (S.setS N (updI S.I k l)) := by
  refine h.setS eo hr hN (fun i hi => ?_) hn ((hc _ (by omega) (by omega)).trans h.cm) ((hc _ (by omega) (by omega)).trans h.cu)
  by_cases e : i = k
  · subst e; rw [updI_same]; exact hl
  · rw [updI_other _ _ e]
    exact LkAt.of_range fun j hj => (hc _ (by omega) (by omega)).trans ((h.ip i hi).range j hj)
theorem LS.setHdI {w : World} {base s : Nat} {S : LD} (h : LS w base s S) {k : Nat} (hk : k < 4) (hd : Hold) : LS (w.setCells s (k * 9 + 1) hd.cells) base s (S.setS S.N (updI S.I k ⟨(S.I k).res, hd⟩)) := by
  refine h.setLkI hk h.hN _ (fun b hb => setCells_other s _ _ _ b hb) (h.row.setCells _ _ _) ?_ (fun o ho h6 => setCells_out (.inr (by rw [Hold.len]; omega))) ((setCells_out (.inr (.inr (by rw [Hold.len]; omega)))).trans h.cn)
  refine LkAt.mk' ((setCells_out (.inr (.inl (by omega)))).trans (h.ip k hk).c0) ?_
  exact HdAt.set hd h.row (by omega)
theorem LS.setLocI {w : World} {base s : Nat} {S : LD} (h : LS w base s S) {k : Nat} (hk : k < 4) (l : Bool) : LS (w.setCell ⟨s, k * 9 + 4, none⟩ (.bool l)) base s (S.setS S.N (updI S.I k ⟨(S.I k).res, { (S.I k).hd with loc := l }⟩)) := by
  have o : ∀ x, x ≠ k * 9 + 4 → (w.setCell ⟨s, k * 9 + 4, none⟩ (.bool l)).cell? ⟨s, x, none⟩ = w.cell? ⟨s, x, none⟩ := fun x hx => setCell_cell_other (.inr hx)
  have hi := h.ip k hk
  refine h.setLkI hk h.hN ⟨(S.I k).res, { (S.I k).hd with loc := l }⟩ (fun b hb => setCell_other (b := s) _ _ hb) (h.row.setCell _ _) ?_ (fun x hx h6 => o x (by omega)) ((o _ (by omega)).trans h.cn)
  exact ⟨(o _ (by omega)).trans hi.c0, (o _ (by omega)).trans hi.c1, (o _ (by omega)).trans hi.c2, (o _ (by omega)).trans hi.c3, setCell_cell_same h.row (by omega), (o _ (by omega)).trans hi.c5, (o _ (by omega)).trans hi.c6, (o _ (by omega)).trans hi.c7, (o _ (by omega)).trans hi.c8⟩
theorem LS.setHdO {w : World} {base s : Nat} {S : LD} (h : LS w base s S) {i : Nat} (hi : i < S.m) (hd : Hold) : LS (w.setCells (S.B i) 0 hd.cells) base s (S.setO i hd (S.F i)) :=
  h.setO hi (fun x hx => setCells_other (S.B i) _ _ _ x hx) ((h.orow i hi).setCells _ _ _) (HdAt.set hd (h.orow i hi) (by omega)) ((setCells_out (.inr (.inr (by rw [Hold.len]; omega)))).trans (h.ofl i hi))
theorem LD.setS_eta (S : LD) : S.setS S.N S.I = S := rfl
theorem LD.setS_setS (S : LD) (N N' : Nat) (I I' : Nat → Lk) : (S.setS N I).setS N' I' = S.setS N' I' := rfl

/-- where a resource is held -/
def AtI (S : LD) (r : ByteArray) (k : Nat) : Prop := k < S.N ∧ (S.I k).res = r ∧ ∀ j, j < k → (S.I j).res ≠ r
def NoI (S : LD) (r : ByteArray) : Prop := ∀ j, j < S.N → (S.I j).res ≠ r
def NoO (S : LD) (r : ByteArray) : Prop := ∀ i, i < S.m → (S.O i).res ≠ r

set_option maxRecDepth 100000 in
set_option maxHeartbeats 1000000 in
/-- of -/
theorem of38 (w : World) (base s : Nat) (S : LD) (h : LS w base s S) (r : ByteArray) (hr : r.size ≤ maxLen) (R : Ending → World → Prop)
    (h1 : ∀ n k, AtI S r k → R (.returned (.pointer (some ⟨s, k * 9 + 1, none⟩))) (w.drewN n))
    (h2 : ∀ n i, NoI S r → i < S.m → (S.O i).res = r → R (.returned (.pointer (some ⟨S.B i, 0, none⟩))) (w.drewN n))
    (h3 : ∀ n, NoI S r → NoO S r → R (.returned (.pointer none)) (w.drewN n)) :
    Calls Try.prog 38 #[.pointer (some ⟨s, 0, none⟩), .string r] w R := by
  have hN := h.hN
  have cn := h.cn
  have gN : (S.N : Int) ≤ 4 := by omega
  have gN0 : 0 ≤ (S.N : Int) := by omega
  have HH := hide h
  clear h
  go_enter Try.func38, Try.ntmps38
  go_wp2
  go_quiet (fail)
  go_wp2
  go_loopg [16] S.N (fun g i wr => ∃ k : Nat, k + g = S.N ∧ i = .int .i64 k ∧ (∀ j, j < k → (S.I j).res ≠ r) ∧ wr = w.drewN nq)
  case atStart => exact ⟨0, by omega, rfl, fun j hj => by omega, rfl⟩
  case round =>
    obtain ⟨k, hk, rfl, hno, rfl⟩ := hrel
    by_cases hlt : k < S.N
    · have c0 := (HH.out.ip k (by omega)).c0
      have hk' : (k : Int) < 4 := by omega
      have HN := hide hno
      clear hno
      by_cases e : (S.I k).res = r
      · have q1 := strT e
        have HE := hide e
        clear e
        go_wp2
        exact h1 _ k ⟨hlt, HE.out, HN.out⟩
      · have q1 := strF e
        have HE := hide e
        clear e
        go_wp2
        go_roundg (gk - 1)
        case rel => exact ⟨k + 1, by omega, by go_num, fun j hj => if h : j = k then h ▸ HE.out else HN.out j (by omega), rfl⟩
        case measure => omega
    · obtain rfl : k = S.N := by omega
      have HN := hide hno
      have cm := HH.out.cm
      clear hno hk hlt
      by_cases hit : ∃ i, i < S.m ∧ (S.O i).res = r
      · obtain ⟨i, hi, er⟩ := hit
        have hl := (HH.out.below (Below_drewN (Below.refl _ _) nq)).hit hi
        rw [er] at hl
        have HE := hide er
        clear er
        go_wp2
        exact h2 _ i HN.out hi HE.out
      · have hmiss : NoO S r := fun i hi e => hit ⟨i, hi, e⟩
        have hl := (HH.out.below (Below_drewN (Below.refl _ _) nq)).miss hmiss hr
        have HE := hide hmiss
        clear hmiss hit
        go_wp2
        exact h3 _ HN.out HE.out

set_option maxHeartbeats 400000 in
/-- ZZOf -/
theorem zzof25 (w : World) (base s : Nat) (S : LD) (h : LS w base s S) (r : ByteArray) (hr : r.size ≤ maxLen) (R : Ending → World → Prop)
    (h1 : ∀ n k, AtI S r k → R (.returned (.pointer (some ⟨s, k * 9 + 1, none⟩))) (w.drewN n))
    (h2 : ∀ n i, NoI S r → i < S.m → (S.O i).res = r → R (.returned (.pointer (some ⟨S.B i, 0, none⟩))) (w.drewN n))
    (h3 : ∀ n, NoI S r → NoO S r → R (.returned (.pointer none)) (w.drewN n)) :
    Calls Try.prog 25 #[.pointer (some ⟨s, 0, none⟩), .string r] w R := by
  have HH := hide h
  clear h
  go_enter Try.func25, Try.ntmps25
  go_wp2_with (go_at_call 38; refine of38 w base s S HH.out r hr _ (fun n k hk => ?_) (fun n i hn hi he => ?_) (fun n hn ho => ?_))
  · exact h1 _ _ hk
  · exact h2 _ _ hn hi he
  · exact h3 _ hn ho

set_option maxRecDepth 100000 in
set_option maxHeartbeats 2000000 in
/-- noteUntold -/
theorem note43 (w : World) (base s : Nat) (S : LD) (h : LS w base s S) (hu8 : S.u < 8192) (hb0 : base ≤ w.heap.size) (r : ByteArray) (hr : r.size ≤ maxLen) (b o : Nat) (lo tt : Bool) (c3 : w.cell? ⟨b, o + 3, none⟩ = some (.bool lo)) (c4 : w.cell? ⟨b, o + 4, none⟩ = some (.bool tt)) (R : Ending → World → Prop)
    (h1 : (lo && !tt) = false → R (.returned (.tuple #[])) w)
    (h2 : (lo && !tt) = true → NoO S r → R (.returned (.tuple #[])) w)
    (h3 : ∀ i, (lo && !tt) = true → i < S.m → (S.O i).res = r → S.F i = true → R (.returned (.tuple #[])) w)
    (h4 : ∀ i w' uv, (lo && !tt) = true → i < S.m → (S.O i).res = r → S.F i = false → LS w' base s ((S.setO i (S.O i).hd true).setU (S.u + 1) (fun j => if j = S.u then i else S.T j) uv) → Below base w w' → R (.returned (.tuple #[])) w') :
    Calls Try.prog 43 #[.pointer (some ⟨s, 0, none⟩), .string r, .pointer (some ⟨b, o, none⟩)] w R := by
  have cm := h.cm
  have HH := hide h
  cases lo
  · clear h
    go_enter Try.func43, Try.ntmps43
    go_wp2
    exact bodyPost_ret (results_none rfl _ _ _) rfl (h1 rfl)
  · cases tt
    · by_cases hit : ∃ i, i < S.m ∧ (S.O i).res = r
      · obtain ⟨i, hi, er⟩ := hit
        have hl := h.hit hi
        rw [er] at hl
        have cf := h.ofl i hi
        have fz := (h.orow i hi).fz
        have fs := h.row.fz
        have cu := h.cu
        have blt := h.ltb hi
        have slt := h.lt
        have ns := h.b_ne_s hi
        have HE := hide er
        clear er h
        cases hF : S.F i
        · rw [hF] at cf
          have HF := hide hF
          have HL1 := hide (HH.out.setFlag hi true)
          clear hF
          go_enter Try.func43, Try.ntmps43
          go_wp2_with (at_builtin; refine wpList_app2 Try.underlying77 Try.info87 (by omega) rfl _ _ rfl base _ _ _ rfl (HL1.out.alloc _).own w.heap.size _ _ rfl rfl rfl (heap_newE _ _ _ (by simp)) (Nat.le_trans HL1.out.hu (by omega)) (by simp; omega) (fun g cap' w1 hown2 hgrow2 hat2 hlt2 => ?_); have es := hgrow2.block s (by simp; omega) (fun e => HL1.out.u_ne_s e.symm); have c38 := (cell_of_block (o := 38) es).trans (HL1.out.alloc _).cu; have f38 := (World.frozen?_of_block (a := ⟨s, 38, none⟩) es).trans ((HL1.out.alloc _).row.fz 38); have HA := hide (And.intro hown2 (And.intro hgrow2 hat2)); clear hown2 hgrow2 hat2 es)
          go_end0
          obtain ⟨hown2, hgrow2, hat2⟩ := HA.out
          have e1 : ((S.setO i (S.O i).hd true).O i).res = r := by rw [S.setO_res]; exact HE.out
          rw [← e1] at hown2
          have hp := (HL1.out.alloc _).pushU (T' := fun j => if j = S.u then i else S.T j) hi hown2 hgrow2 hat2 hu8 (fun j hj => if_neg (Nat.ne_of_lt hj)) (if_pos rfl)
          refine h4 i _ _ rfl hi HE.out HF.out hp ?_
          have q1 := (Below.refl base w).setCell (p := ⟨S.B i, 8, none⟩) (HH.out.obase i hi) (.bool true)
          have q2 := q1.alloc (by simp; omega) (.cells #[.string r, .pointer (some ⟨S.B i, 0, none⟩)] 87)
          exact (q2.grown hgrow2 (by simp; omega) (fun y hy => by obtain ⟨_, _, h3⟩ := HH.out.ublock hy; exact h3)).setCell (p := ⟨s, 38, none⟩) HH.out.hbase _
        · rw [hF] at cf
          have HF := hide hF
          clear hF
          go_enter Try.func43, Try.ntmps43
          go_wp2
          go_end0
          exact h3 i rfl hi HE.out HF.out
      · have hmiss : NoO S r := fun i hi e => hit ⟨i, hi, e⟩
        have hl := h.miss hmiss hr
        have HE := hide hmiss
        clear hmiss hit h
        go_enter Try.func43, Try.ntmps43
        go_wp2
        go_end0
        exact h2 rfl HE.out
    · clear h
      go_enter Try.func43, Try.ntmps43
      go_wp2
      exact bodyPost_ret (results_none rfl _ _ _) rfl (h1 rfl)

end Go.Proofs.Qxb6605402a
