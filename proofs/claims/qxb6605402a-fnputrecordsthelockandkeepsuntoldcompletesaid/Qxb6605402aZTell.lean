import Derived.Test.Qxb6605402aTell
namespace Go.Proofs.Qxb6605402a
open Go.RowKit Go.Maps
set_option linter.unusedVariables false
set_option linter.unusedSimpArgs false

theorem ownsRow_slice {w : World} {base e size n : Nat} {v : Value} {xs : List Value} (h : w.ownsRow base e size v n xs) : ∃ a cap, v = .slice a n cap := by
  rcases h.2 with ⟨e, h0⟩ | ⟨g, cap, cur, e, _⟩
  · exact ⟨none, 0, by rw [e, h0]⟩
  · exact ⟨_, _, e⟩
theorem ownsRow_row {w : World} {base e size n : Nat} {v : Value} {xs : List Value} (h : w.ownsRow base e size v n xs) {g : Nat} (hg : v.ownBlock = some g) : ∃ k, Row w g e k := by
  rcases h.2 with ⟨e, h0⟩ | ⟨g', cap, cur, e, hb, hh, _⟩
  · rw [e] at hg; cases hg
  · rw [e] at hg; cases hg; exact ⟨_, cur, hh, rfl⟩
theorem ownsRow_ne {w : World} {base base' e e' size size' n n' : Nat} {v v' : Value} {xs xs' : List Value} (h : w.ownsRow base e size v n xs) (h' : w.ownsRow base' e' size' v' n' xs') (hne : e ≠ e') {g : Nat} (hg : v.ownBlock = some g) : some g ≠ v'.ownBlock := fun hg' => by
  obtain ⟨k, hr⟩ := ownsRow_row h hg
  obtain ⟨k', hr'⟩ := ownsRow_row h' hg'.symm
  exact hne (hr.type_inj hr')

/-- while the report is turned -/
structure TT (w wr : World) (base s : Nat) (S : LD) (G : List (ByteArray × ByteArray)) (a : Option Addr) (cap k : Nat) (v : Value) : Prop where
  ls : LS wr base s S
  hold : wr.ownsRow w.heap.size 68 2 (.slice a G.length cap) G.length (pairCells G)
  own : wr.ownsRow w.heap.size 70 2 v k (pairCells (G.take k))
  bel : Below base w wr
  sz : w.heap.size ≤ wr.heap.size
theorem TT.push {w wr w1 : World} {base s : Nat} {S : LD} {G : List (ByteArray × ByteArray)} {a : Option Addr} {cap k : Nat} {v : Value} (h : TT w wr base s S G a cap k v) (hb : base ≤ w.heap.size) (f : Foot S s w.heap.size) {p : ByteArray × ByteArray} (hp : G[k]? = some p) {g cap' : Nat} {o : Obj}
    (hown : w1.ownsRow w.heap.size 70 2 (.slice (some ⟨g, 0, none⟩) (k + 1) cap') (k + 1) (pairCells (G.take k) ++ [.string p.1, .string p.2])) (hg : (wr.alloc o).drew.grownBy w1 v.ownBlock) :
    TT w w1 base s S G a cap (k + 1) (.slice (some ⟨g, 0, none⟩) (k + 1) cap') := by
  have hsz := h.sz
  have hs := hg.size
  refine ⟨h.ls.keep f (grow_old h.own h.sz hg), ownsRow_of_block h.hold (fun x hx => ?_), ?_, grow_below hb h.own h.sz h.bel hg, by simp at hs; omega⟩
  · have hlt := (h.hold.lt x hx).2
    exact (hg.block x (by simp; omega) (ownsRow_ne h.hold h.own (by omega) hx)).trans (Below.heap_alloc wr _ x hlt)
  · have e : G.take (k + 1) = G.take k ++ [p] := by rw [List.take_add_one, hp]; rfl
    rw [e, pairCells_append]
    exact hown

set_option maxRecDepth 100000 in
set_option maxHeartbeats 2000000 in
/-- ZZTell -/
theorem zztell13 (w : World) (base s : Nat) (S : LD) (h : LS w base s S) (hb0 : base ≤ w.heap.size) (hinj : ∀ i j, i < j → j < S.u → S.T i ≠ S.T j) (G : List (ByteArray × ByteArray)) (hG : G = rep S.I S.N ++ rep (fun j => S.O (S.T j)) S.u)
    (R : Ending → World → Prop) (hR : ∀ v w' uv, w'.ownsRow w.heap.size 70 2 v G.length (pairCells G) → LS w' base s (((S.tellI S.N).tellO S.u).setU 0 S.T uv) → Below base w w' → w.heap.size ≤ w'.heap.size → R (.returned v) w') :
    Calls Try.prog 13 #[.pointer (some ⟨s, 0, none⟩)] w R := by
  have HH := hide h
  have hGl : G.length ≤ 16000 := by
    have h1 := rep_len S.I S.N
    have h2 := rep_len (fun x => S.O (S.T x)) S.u
    have h3 := h.hu
    have h4 := h.hN
    rw [hG, List.length_append]; omega
  have HG := hide hG
  clear h hG
  go_enter Try.func13, Try.ntmps13
  go_wp2_with (go_at_call 36; refine tell36 w base s S HH.out hb0 hinj _ (fun v w1 uv huv hown hls hbel hsz => ?_); rw [← HG.out] at hown; obtain ⟨a, cap, rfl⟩ := ownsRow_slice hown; obtain ⟨i0, hi0, hz0⟩ := Option.map_eq_some_iff.1 Try.info70; simp only [Prod.mk.injEq, Option.map_eq_some_iff] at hz0; obtain ⟨⟨z0, hz1, _⟩, hz2, hz3⟩ := hz0; obtain ⟨w2, hmk, hown2, hg2⟩ := run_make_own (P := Try.prog) w1 w.heap.size 36 70 i0 z0 2 Try.underlying36 hi0 hz1 hz2 .i64 .i64 G.length (by rw [hz3]; omega) (by unfold maxLen; omega) hsz; have HU := hide huv; clear huv; have HA := hide (And.intro hown (And.intro hls (And.intro hbel (And.intro hsz (And.intro hown2 hg2))))); clear hown hls hbel hown2 hg2 hi0 hz1 hz2 hz3)
  have ft : Foot (((S.tellI S.N).tellO S.u).setU 0 S.T uv) s w.heap.size := ⟨HH.out.foot.s, HH.out.foot.b, HH.out.foot.m, fun g e => HH.out.foot.u g (HU.out ▸ e)⟩
  go_loopg [4, 5] G.length (fun g v i wr => ∃ k : Nat, k + g = G.length ∧ i = .int .i64 k ∧ TT w wr base s (((S.tellI S.N).tellO S.u).setU 0 S.T uv) G a cap k v)
  case atStart =>
    obtain ⟨hown, hls, hbel, hsz', hown2, hg2⟩ := HA.out
    have old : ∀ x, x < w1.heap.size → w2.heap[x]? = w1.heap[x]? := fun x hx => hg2.block x hx (by simp)
    have hs2 := hg2.size
    exact ⟨0, by omega, rfl, hls.keep (hls.foot) old, ownsRow_of_block hown (fun x hx => old x (hown.lt x hx).2), hown2, hbel.grown hg2 (by omega) (fun k hk => by cases hk), by omega⟩
  case round =>
    clear HA hmk
    obtain ⟨k, hk, rfl, htt⟩ := hrel
    by_cases hlt : k < G.length
    · obtain ⟨g, cap', ha, hgb, hgl⟩ := htt.hold.form (by omega)
      injection ha with ha _ hcap
      subst ha
      subst hcap
      obtain ⟨p, hp⟩ : ∃ p, G[k]? = some p := ⟨_, List.getElem?_eq_getElem hlt⟩
      obtain ⟨q0, q1⟩ := flatMap_pair (fun p : ByteArray × ByteArray => Value.string p.1) (fun p => Value.string p.2) G k p hp
      have c0 : wr.cell? ⟨g, k * 2, none⟩ = some (.string p.1) := (htt.hold.cellAt (k * 2) (by omega)).trans q0
      have c1 : wr.cell? ⟨g, k * 2 + 1, none⟩ = some (.string p.2) := (htt.hold.cellAt (k * 2 + 1) (by omega)).trans q1
      have nu : Hid (some g ≠ u4.ownBlock) := ownsRow_ne htt.hold htt.own (by omega) rfl
      have hsz2 := htt.sz
      have hk' : (k : Int) < G.length := by omega
      have HT := hide htt
      have HP := hide hp
      clear htt hp q0 q1
      go_wp2
      go_region_held_law (fun w' => w'.cell? ⟨g, k * 2, none⟩ = some (.string p.1) ∧ w'.cell? ⟨g, k * 2 + 1, none⟩ = some (.string p.2)) (go_keep)
        ((refine step_app2 Try.underlying36 Try.info70 (by omega) rfl _ _ rfl w.heap.size _ _ _ rfl (HT.out.own.alloc _) wr.heap.size _ _ rfl rfl rfl (heap_new _ _) (show k ≤ 16384 by omega) (by simp; omega) (fun g' cap' w3 hown3 hgrow3 hat3 hlt3 => ?_); have es := (hgrow3.block g (by simp; omega) nu.out).trans (Below.heap_alloc wr _ g hgl); have d0 := (cell_of_block (o := k * 2) es).trans c0; have d1 := (cell_of_block (o := k * 2 + 1) es).trans c1; have HA := hide (And.intro hown3 (And.intro hgrow3 hat3)); clear hown3 hgrow3 hat3 es))
      go_wp2
      go_roundg (gk - 1)
      case rel => exact ⟨k + 1, by omega, by go_num, HT.out.push hb0 ft HP.out HA.out.1 HA.out.2.1⟩
      case measure => omega
    · obtain rfl : k = G.length := by omega
      have HT := hide htt
      clear htt hk hlt
      go_wp2
      have h2 := HT.out.own
      rw [List.take_of_length_le (Nat.le_refl _)] at h2
      exact hR _ _ _ h2 HT.out.ls HT.out.bel HT.out.sz

end Go.Proofs.Qxb6605402a
