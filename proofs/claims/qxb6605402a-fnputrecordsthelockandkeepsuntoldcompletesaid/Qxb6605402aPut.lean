import Derived.Test.Qxb6605402aAdd
namespace Go.Proofs.Qxb6605402a
open Go.RowKit Go.Maps
set_option linter.unusedVariables false
set_option linter.unusedSimpArgs false

/-- a lock among the others has been put -/
def LD.putO (S : LD) (i : Nat) (hd : Hold) (uv : Value) : LD := if (hd.loc && !hd.tol && !S.F i) = true then (S.setO i hd true).setU (S.u + 1) (fun j => if j = S.u then i else S.T j) uv else S.setO i hd (S.F i)
def PlI (S : LD) (r : ByteArray) (k N1 : Nat) : Prop := (AtI S r k ∧ N1 = S.N) ∨ (k = S.N ∧ N1 = S.N + 1 ∧ S.N < 4 ∧ NoI S r ∧ NoO S r)
def PlO (S : LD) (r : ByteArray) (i : Nat) (S0 : LD) : Prop := (S0 = S ∧ i < S.m ∧ (S.O i).res = r ∧ NoI S r) ∨ (i = S.m ∧ S.N = 4 ∧ NoI S r ∧ NoO S r ∧ ∃ l b mb, S0 = S.addO l b mb ∧ l.res = r ∧ due l = false)
theorem PlO.lt {S S0 : LD} {r : ByteArray} {i : Nat} (h : PlO S r i S0) : i < S0.m ∧ (S0.O i).res = r ∧ S0.u = S.u := by
  rcases h with ⟨rfl, hi, e, _⟩ | ⟨rfl, _, _, _, l, b, mb, rfl, e, _⟩
  · exact ⟨hi, e, rfl⟩
  · exact ⟨Nat.lt_succ_self _, by rw [S.addO_O']; exact e, rfl⟩

/-- setLocal, for a lock in place -/
theorem setLocI42 (w : World) (base s : Nat) (S : LD) (k N1 : Nat) (hk : k < 4) (r : ByteArray) (hr : r.size ≤ maxLen) (hd : Hold) (x : Bool) (h : LS w base s (S.setS N1 (updI S.I k ⟨r, { hd with loc := x }⟩))) (hno : NoO S r) (hu8 : S.u < 8192) (hb0 : base ≤ w.heap.size) (R : Ending → World → Prop)
    (hR : ∀ w', LS w' base s (S.setS N1 (updI S.I k ⟨r, hd⟩)) → Below base w w' → R (.returned (.tuple #[])) w') :
    Calls Try.prog 42 #[.pointer (some ⟨s, 0, none⟩), .string r, .pointer (some ⟨s, k * 9 + 1, none⟩), .bool hd.loc] w R := by
  have hi := h.ip k hk
  rw [show (S.setS N1 (updI S.I k ⟨r, { hd with loc := x }⟩)).I k = ⟨r, { hd with loc := x }⟩ from updI_same _ _ _] at hi
  have h' : LS (w.setCell ⟨s, k * 9 + 1 + 3, none⟩ (.bool hd.loc)) base s (S.setS N1 (updI S.I k ⟨r, hd⟩)) := by
    have := h.setLocI hk hd.loc
    rw [show (S.setS N1 (updI S.I k ⟨r, { hd with loc := x }⟩)).I k = ⟨r, { hd with loc := x }⟩ from updI_same _ _ _] at this
    rw [show (S.setS N1 (updI S.I k ⟨r, { hd with loc := x }⟩)).I = updI S.I k ⟨r, { hd with loc := x }⟩ from rfl, updI_updI, LD.setS_setS] at this
    exact this
  have hb := (Below.refl base w).setCell (p := ⟨s, k * 9 + 1 + 3, none⟩) h.hbase (.bool hd.loc)
  exact setLocal42 w base s _ s (k * 9 + 1) hd.loc hd.tol _ hi.c4 (h.row.fz _) hi.c5 h' hu8 hb0 r hr R (fun _ => hR _ h' hb) (fun _ _ => hR _ h' hb) (fun i _ hi he _ => (hno i hi he).elim) (fun i _ _ _ hi he _ _ _ => (hno i hi he).elim)

/-- setLocal, for a lock among the others -/
theorem setLocO42 (w : World) (base s : Nat) (S : LD) (i : Nat) (hi : i < S.m) (r : ByteArray) (hr : r.size ≤ maxLen) (he : (S.O i).res = r) (hd : Hold) (x : Bool) (h : LS w base s (S.setO i { hd with loc := x } (S.F i))) (hu8 : S.u < 8192) (hb0 : base ≤ w.heap.size) (R : Ending → World → Prop)
    (hR : ∀ w' uv, LS w' base s (S.putO i hd uv) → Below base w w' → R (.returned (.tuple #[])) w') :
    Calls Try.prog 42 #[.pointer (some ⟨s, 0, none⟩), .string r, .pointer (some ⟨S.B i, 0, none⟩), .bool hd.loc] w R := by
  have hh := h.ohd i hi
  rw [S.setO_O] at hh
  have h' : LS (w.setCell ⟨S.B i, 0 + 3, none⟩ (.bool hd.loc)) base s (S.setO i hd (S.F i)) := by
    have := h.setLoc hi hd.loc
    rw [S.setO_O, S.setO_F, S.setO_setO] at this
    exact this
  have hb := (Below.refl base w).setCell (p := ⟨S.B i, 0 + 3, none⟩) (h.obase i hi) (.bool hd.loc)
  have huq : ∀ j, j < S.m → ((S.setO i hd (S.F i)).O j).res = r → j = i := fun j hj e => h'.dist j i hj hi (by rw [e, S.setO_res, he])
  refine setLocal42 w base s _ (S.B i) 0 hd.loc hd.tol _ hh.c3 ((h.orow i hi).fz _) hh.c4 h' hu8 hb0 r hr R (fun q => hR _ S.uv ?_ hb) (fun _ hn => (hn i hi (by rw [S.setO_res]; exact he)).elim) (fun j q hj e hF => ?_) (fun j w' uv q hj e hF hl hb2 => ?_)
  · unfold LD.putO
    rw [if_neg (by rw [q]; simp)]
    exact h'
  · obtain rfl := huq j hj e
    rw [S.setO_F] at hF
    refine hR _ S.uv ?_ hb
    unfold LD.putO
    rw [if_neg (by rw [hF]; simp)]
    rw [hF] at h'
    rw [hF]
    exact h'
  · obtain rfl := huq j hj e
    rw [S.setO_F] at hF
    refine hR w' uv ?_ (hb.trans hb2)
    unfold LD.putO
    rw [if_pos (by rw [q, hF]; rfl)]
    rw [S.setO_O, S.setO_setO] at hl
    exact hl

theorem LD.addO_self (S : LD) (l : Lk) (b mb : Nat) : (S.addO l b mb).setO S.m l.hd ((S.addO l b mb).F S.m) = S.addO l b mb := by
  have e1 : (fun j => if j = S.m then (⟨((S.addO l b mb).O S.m).res, l.hd⟩ : Lk) else (S.addO l b mb).O j) = (S.addO l b mb).O := by
    funext j
    by_cases e : j = S.m
    · subst e; rw [if_pos rfl, S.addO_O']
    · rw [if_neg e]
  have e2 : (fun j => if j = S.m then (S.addO l b mb).F S.m else (S.addO l b mb).F j) = (S.addO l b mb).F := by
    funext j
    by_cases e : j = S.m
    · subst e; rw [if_pos rfl]
    · rw [if_neg e]
  unfold LD.setO
  rw [e1, e2]
theorem setLocO42' (w : World) (base s : Nat) (S : LD) (i b : Nat) (hi : i < S.m) (r : ByteArray) (hr : r.size ≤ maxLen) (he : (S.O i).res = r) (hd : Hold) (x : Bool) (eb : S.B i = b) (h : LS w base s (S.setO i { hd with loc := x } (S.F i))) (hu8 : S.u < 8192) (hb0 : base ≤ w.heap.size) (R : Ending → World → Prop)
    (hR : ∀ w' uv, LS w' base s (S.putO i hd uv) → Below base w w' → R (.returned (.tuple #[])) w') :
    Calls Try.prog 42 #[.pointer (some ⟨s, 0, none⟩), .string r, .pointer (some ⟨b, 0, none⟩), .bool hd.loc] w R := by
  subst eb
  exact setLocO42 w base s S i hi r hr he hd x h hu8 hb0 R hR

/-- the box of the parameter, its 'local' written -/
theorem put_box {w : World} {base s : Nat} {S : LD} (h : LS w base s S) (hb0 : base ≤ w.heap.size) (hd : Hold) (n : Nat) (x : Bool) :
    ∃ W, ((w.alloc (.cells #[.string hd.mode, .int .u64 hd.ver, .bool hd.cdr, .bool hd.loc, .bool hd.tol, .bool hd.wri, .int .u64 hd.tok, .int .u64 hd.sqn] 72)).drewN n).setCell ⟨w.heap.size, 3, none⟩ (.bool x) = W ∧
      LS W base s S ∧ Below base w W ∧ W.heap[w.heap.size]? = some (.cells #[.string hd.mode, .int .u64 hd.ver, .bool hd.cdr, .bool x, .bool hd.tol, .bool hd.wri, .int .u64 hd.tok, .int .u64 hd.sqn] 72) ∧ w.heap.size < W.heap.size := by
  refine ⟨_, rfl, ?_, ?_, ?_, ?_⟩
  · refine h.below ?_
    exact (Below_drewN ((Below.refl _ _).alloc (Nat.le_refl _) _) n).setCell (p := ⟨w.heap.size, 3, none⟩) (Nat.le_refl _) _
  · exact (Below_drewN ((Below.refl _ _).alloc hb0 _) n).setCell (p := ⟨w.heap.size, 3, none⟩) hb0 _
  · have e : ((w.alloc (.cells #[.string hd.mode, .int .u64 hd.ver, .bool hd.cdr, .bool hd.loc, .bool hd.tol, .bool hd.wri, .int .u64 hd.tok, .int .u64 hd.sqn] 72)).drewN n).heap[w.heap.size]? = some (.cells #[.string hd.mode, .int .u64 hd.ver, .bool hd.cdr, .bool hd.loc, .bool hd.tol, .bool hd.wri, .int .u64 hd.tok, .int .u64 hd.sqn] 72) := by
      rw [show ((w.alloc (.cells #[.string hd.mode, .int .u64 hd.ver, .bool hd.cdr, .bool hd.loc, .bool hd.tol, .bool hd.wri, .int .u64 hd.tok, .int .u64 hd.sqn] 72)).drewN n).heap = (w.alloc (.cells #[.string hd.mode, .int .u64 hd.ver, .bool hd.cdr, .bool hd.loc, .bool hd.tol, .bool hd.wri, .int .u64 hd.tok, .int .u64 hd.sqn] 72)).heap from by simp]
      exact heap_new _ _
    generalize ((w.alloc (.cells #[.string hd.mode, .int .u64 hd.ver, .bool hd.cdr, .bool hd.loc, .bool hd.tol, .bool hd.wri, .int .u64 hd.tok, .int .u64 hd.sqn] 72)).drewN n) = W at e
    have hlt := (Array.getElem?_eq_some_iff.1 e).1
    simp [World.setCell, e, World.heap, Array.getElem?_modify]
  · simp

set_option maxRecDepth 100000 in
set_option maxHeartbeats 2000000 in
/-- put -/
theorem put41 (w : World) (base s : Nat) (S : LD) (h : LS w base s S) (hb0 : base ≤ w.heap.size) (hu8 : S.u < 8192) (hm8 : S.m < 8192) (hIO : ∀ k i, k < S.N → i < S.m → (S.I k).res ≠ (S.O i).res) (r : ByteArray) (hr : r.size ≤ maxLen) (hd : Hold) (R : Ending → World → Prop)
    (hRI : ∀ w' k N1, PlI S r k N1 → LS w' base s (S.setS N1 (updI S.I k ⟨r, hd⟩)) → Below base w w' → R (.returned (.pointer (some ⟨s, k * 9 + 1, none⟩))) w')
    (hRO : ∀ w' i S0 uv, PlO S r i S0 → LS w' base s (S0.putO i hd uv) → Below base w w' → R (.returned (.pointer (some ⟨S0.B i, 0, none⟩))) w') :
    Calls Try.prog 41 #[.pointer (some ⟨s, 0, none⟩), .string r, .agg #[.string hd.mode, .int .u64 hd.ver, .bool hd.cdr, .bool hd.loc, .bool hd.tol, .bool hd.wri, .int .u64 hd.tok, .int .u64 hd.sqn]] w R := by
  have HH := hide h
  have HIO := hide hIO
  have h1 := hide (h.alloc (.cells #[.string hd.mode, .int .u64 hd.ver, .bool hd.cdr, .bool hd.loc, .bool hd.tol, .bool hd.wri, .int .u64 hd.tok, .int .u64 hd.sqn] 72))
  have slt := h.lt
  clear h hIO
  go_enter Try.func41, Try.ntmps41
  go_upto_if 15 with (go_at_call 38; refine of38 _ base s S h1.out r hr _ (fun n k hk => ?_) (fun n i hn hi he => ?_) (fun n hn ho => ?_))
  · have hk4 : k < 4 := Nat.lt_of_lt_of_le hk.1 HH.out.hN
    have d4 := (HH.out.ip k hk4).c4
    have HK := hide hk
    clear hk
    go_upto_region 5 with (fail)
    obtain ⟨W, eW, hls, hbW, hbox, hltW⟩ := put_box HH.out hb0 hd n (S.I k).hd.loc
    rw [eW]
    clear d4 eW
    have hi := hls.ip k hk4
    have d1 := hi.c1
    have d2 := hi.c2
    have d3 := hi.c3
    have d4 := hi.c4
    have d5 := hi.c5
    have d6 := hi.c6
    have d7 := hi.c7
    have d8 := hi.c8
    have fz := hls.row.fz
    have slt' := hls.lt
    have c0 := cell_of_heap hbox 0
    have c1 := cell_of_heap hbox 1
    have c2 := cell_of_heap hbox 2
    have c3 := cell_of_heap hbox 3
    have c4 := cell_of_heap hbox 4
    have c5 := cell_of_heap hbox 5
    have c6 := cell_of_heap hbox 6
    have c7 := cell_of_heap hbox 7
    have h2 := hls.setHdI hk4 { hd with loc := (S.I k).hd.loc }
    rw [HK.out.2.1] at h2
    have HL := hide (And.intro hls (And.intro hbW h2))
    clear hls hbW hbox hi h2
    have hsz : base ≤ (W.setCells s (k * 9 + 1) (Hold.cells { hd with loc := (S.I k).hd.loc })).heap.size := by rw [setCells_size]; omega
    go_wp2_with (go_at_call 42; refine setLocI42 _ base s S k S.N hk4 r hr hd (S.I k).hd.loc HL.out.2.2 (fun i hi e => HIO.out k i HK.out.1 hi (HK.out.2.1.trans e.symm)) hu8 hsz _ (fun w' hl hb => ?_))
    refine hRI w' k S.N (.inl ⟨HK.out, rfl⟩) hl ?_
    exact (Below.setCells' s HH.out.hbase _ (k * 9 + 1) W HL.out.2.1).trans hb
  · have d4 := (HH.out.ohd i hi).c3
    have blt := HH.out.ltb hi
    have HK := hide (And.intro hn he)
    clear hn he
    go_upto_region 5 with (fail)
    obtain ⟨W, eW, hls, hbW, hbox, hltW⟩ := put_box HH.out hb0 hd n (S.O i).hd.loc
    rw [eW]
    clear d4 eW
    have hi' := hls.ohd i hi
    have d1 := hi'.c0
    have d2 := hi'.c1
    have d3 := hi'.c2
    have d4 := hi'.c3
    have d5 := hi'.c4
    have d6 := hi'.c5
    have d7 := hi'.c6
    have d8 := hi'.c7
    have fz := (hls.orow i hi).fz
    have blt' := hls.ltb hi
    have c0 := cell_of_heap hbox 0
    have c1 := cell_of_heap hbox 1
    have c2 := cell_of_heap hbox 2
    have c3 := cell_of_heap hbox 3
    have c4 := cell_of_heap hbox 4
    have c5 := cell_of_heap hbox 5
    have c6 := cell_of_heap hbox 6
    have c7 := cell_of_heap hbox 7
    have h2 := hls.setHdO hi { hd with loc := (S.O i).hd.loc }
    have HL := hide (And.intro hls (And.intro hbW h2))
    clear hls hbW hbox hi' h2
    have hsz : base ≤ (W.setCells (S.B i) 0 (Hold.cells { hd with loc := (S.O i).hd.loc })).heap.size := by rw [setCells_size]; omega
    go_wp2_with (go_at_call 42; refine setLocO42 _ base s S i hi r hr HK.out.2 hd (S.O i).hd.loc HL.out.2.2 hu8 hsz _ (fun w' uv hl hb => ?_))
    refine hRO w' i S uv (.inl ⟨rfl, hi, HK.out.2, HK.out.1⟩) hl ?_
    exact (Below.setCells' (S.B i) (HH.out.obase i hi) _ 0 W HL.out.2.1).trans hb
  · have HK := hide (And.intro hn ho)
    clear hn ho
    go_upto_region 7 with (fail)
    obtain ⟨W, eW, hls, hbW, hbox, hltW⟩ := put_box HH.out hb0 hd n false
    rw [eW]
    clear eW
    have c0 := cell_of_heap hbox 0
    have c1 := cell_of_heap hbox 1
    have c2 := cell_of_heap hbox 2
    have c3 := cell_of_heap hbox 3
    have c4 := cell_of_heap hbox 4
    have c5 := cell_of_heap hbox 5
    have c6 := cell_of_heap hbox 6
    have c7 := cell_of_heap hbox 7
    have HL := hide (And.intro hls hbW)
    clear hls hbW hbox
    have hsz : base ≤ W.heap.size := by omega
    by_cases h4 : S.N < 4
    · go_wp2_with (first
        | (go_at_call 39; refine add39i W base s S HL.out.1 h4 hsz r { hd with loc := false } _ (fun w1 hl1 hb1 hf1 => ?_); have HL1 := hide (And.intro hl1 hb1); have hsz1 : base ≤ w1.heap.size := Nat.le_trans hsz hb1.size; clear hl1 hb1 hf1)
        | (go_at_call 42; refine setLocI42 w1 base s S S.N (S.N + 1) h4 r hr hd false HL1.out.1 HK.out.2 hu8 hsz1 _ (fun w' hl hb => ?_)))
      exact hRI w' S.N (S.N + 1) (.inr ⟨rfl, rfl, h4, HK.out⟩) hl ((HL.out.2.trans HL1.out.2).trans hb)
    · have hN4 : S.N = 4 := by have := HH.out.hN; omega
      go_wp2_with (first
        | (go_at_call 39; refine add39o W base s S HL.out.1 hN4 hsz r hr HK.out.2 hm8 { hd with loc := false } _ (fun w1 b mb hl1 hb1 hf1 hge => ?_); have HS : Hid (LS w1 base s ((S.addO ⟨r, { hd with loc := false }⟩ b mb).setO S.m { hd with loc := false } ((S.addO ⟨r, { hd with loc := false }⟩ b mb).F S.m))) := hide (by rw [S.addO_self ⟨r, { hd with loc := false }⟩ b mb]; exact hl1); have HL1 := hide (And.intro hl1 hb1); have hsz1 : base ≤ w1.heap.size := Nat.le_trans hsz hb1.size; clear hl1 hb1 hf1)
        | (go_at_call 42; refine setLocO42' w1 base s (S.addO ⟨r, { hd with loc := false }⟩ b mb) S.m b (Nat.lt_succ_self _) r hr (by rw [S.addO_O']) hd false (by rw [S.addO_B']) HS.out hu8 hsz1 _ (fun w' uv hl hb => ?_)))
      have := hRO w' S.m (S.addO ⟨r, { hd with loc := false }⟩ b mb) uv (.inr ⟨rfl, hN4, HK.out.1, HK.out.2, _, b, mb, rfl, rfl, rfl⟩) hl ((HL.out.2.trans HL1.out.2).trans hb)
      rw [S.addO_B'] at this
      exact this

end Go.Proofs.Qxb6605402a
