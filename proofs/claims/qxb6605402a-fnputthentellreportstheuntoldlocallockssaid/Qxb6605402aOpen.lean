import Derived.Test.Qxb6605402aBase
import Derived.ProofKit
import Derived.OpenShut
import Derived.ShutString
import Derived.ChangeOld
import Derived.Below
import Derived.Deep.Slices
namespace Go.Proofs.Qxb6605402a
open Go.ChangeShapes Go.WideShapes Go.ChangeAt Go.RowKit Go.Deep
open Go.ChangeMaps (open_string shut_string)
set_option linter.unusedVariables false
set_option linter.unusedSimpArgs false

theorem ownTry : ownKnob Try.prog.godebug = none := by kernel_rfl
theorem laidOutTry : laidOutB Try.prog = true := by kernel_rfl
theorem c9 : Try.prog.cellsOf 9 = 1 := by kernel_rfl
theorem c22 : Try.prog.cellsOf 22 = 1 := by kernel_rfl
theorem c4 : Try.prog.cellsOf 4 = 1 := by kernel_rfl
theorem c3 : Try.prog.cellsOf 3 = 1 := by kernel_rfl
theorem c24 : Try.prog.cellsOf 24 = 8 := by kernel_rfl
theorem c26 : Try.prog.cellsOf 26 = 9 := by kernel_rfl
theorem c27 : Try.prog.cellsOf 27 = 36 := by kernel_rfl

section
variable {H : Type} {enc : TypeId × Value → H} {w : World} {base : Nat} {spare : Nat → Bool} {held : Bool} {fuel : Nat} {cs : List Value} {x : DataW H × List MemPlace}

theorem get1 {cs : List Value} {i : Nat} {v : Value} (h : (cs.drop i).take 1 = [v]) : cs[i]? = some v := by
  have := congrArg (fun l => l[0]?) h
  simpa using this

theorem open_hold (h : DataW.trod enc Try.prog w base spare held fuel 24 cs = some x) : ∃ hd : Hold, cs = hd.cells ∧ hd.mode.size ≤ maxLen := by
  obtain ⟨xs, n, _, _, hl, hxl, hf⟩ := DataW.trod_struct Try.underlying24 h
  rw [c24] at hl
  have hxl8 : xs.length = 8 := hxl
  have gx : ∀ i, i < 8 → ∃ y, xs[i]? = some y := fun i hi => ⟨xs[i], List.getElem?_eq_getElem (by omega)⟩
  obtain ⟨y0, e0⟩ := gx 0 (by omega)
  have g0 := (hf 0 _ rfl).trans e0
  obtain ⟨v0, q0, _, ml0⟩ := DataW.trod_string Try.underlying9 g0
  obtain ⟨y1, e1⟩ := gx 1 (by omega)
  have g1 := (hf 1 _ rfl).trans e1
  obtain ⟨v1, q1, _⟩ := DataW.trod_int Try.underlying22 g1
  obtain ⟨y2, e2⟩ := gx 2 (by omega)
  have g2 := (hf 2 _ rfl).trans e2
  obtain ⟨v2, q2, _⟩ := DataW.trod_bool Try.underlying4 g2
  obtain ⟨y3, e3⟩ := gx 3 (by omega)
  have g3 := (hf 3 _ rfl).trans e3
  obtain ⟨v3, q3, _⟩ := DataW.trod_bool Try.underlying4 g3
  obtain ⟨y4, e4⟩ := gx 4 (by omega)
  have g4 := (hf 4 _ rfl).trans e4
  obtain ⟨v4, q4, _⟩ := DataW.trod_bool Try.underlying4 g4
  obtain ⟨y5, e5⟩ := gx 5 (by omega)
  have g5 := (hf 5 _ rfl).trans e5
  obtain ⟨v5, q5, _⟩ := DataW.trod_bool Try.underlying4 g5
  obtain ⟨y6, e6⟩ := gx 6 (by omega)
  have g6 := (hf 6 _ rfl).trans e6
  obtain ⟨v6, q6, _⟩ := DataW.trod_int Try.underlying22 g6
  obtain ⟨y7, e7⟩ := gx 7 (by omega)
  have g7 := (hf 7 _ rfl).trans e7
  obtain ⟨v7, q7, _⟩ := DataW.trod_int Try.underlying22 g7
  have r0 := get1 (i := 0) (cs := cs) (by simpa [c9] using q0)
  have r1 := get1 (i := 1) (cs := cs) (by simpa [c22] using q1)
  have r2 := get1 (i := 2) (cs := cs) (by simpa [c4] using q2)
  have r3 := get1 (i := 3) (cs := cs) (by simpa [c4] using q3)
  have r4 := get1 (i := 4) (cs := cs) (by simpa [c4] using q4)
  have r5 := get1 (i := 5) (cs := cs) (by simpa [c4] using q5)
  have r6 := get1 (i := 6) (cs := cs) (by simpa [c22] using q6)
  have r7 := get1 (i := 7) (cs := cs) (by simpa [c22] using q7)
  refine ⟨⟨v0, v1, v2, v3, v4, v5, v6, v7⟩, ?_, ml0⟩
  apply List.ext_getElem?
  intro i
  match i with
  | 0 => exact r0
  | 1 => exact r1
  | 2 => exact r2
  | 3 => exact r3
  | 4 => exact r4
  | 5 => exact r5
  | 6 => exact r6
  | 7 => exact r7
  | i + 8 => rw [List.getElem?_eq_none (by omega)]; rfl
theorem open_lk (h : DataW.trod enc Try.prog w base spare held fuel 26 cs = some x) : ∃ l : Lk, cs = l.cells ∧ l.res.size ≤ maxLen := by
  obtain ⟨xs, n, _, _, hl, hxl, hf⟩ := DataW.trod_struct Try.underlying26 h
  rw [c26] at hl
  have hxl2 : xs.length = 2 := hxl
  have gx : ∀ i, i < 2 → ∃ y, xs[i]? = some y := fun i hi => ⟨xs[i], List.getElem?_eq_getElem (by omega)⟩
  obtain ⟨y0, e0⟩ := gx 0 (by omega)
  obtain ⟨y1, e1⟩ := gx 1 (by omega)
  have g0 := (hf 0 _ rfl).trans e0
  have g1 := (hf 1 _ rfl).trans e1
  obtain ⟨r, q0, _, hr⟩ := DataW.trod_string Try.underlying9 g0
  obtain ⟨hd, q1, _⟩ := open_hold g1
  have r0 := get1 (i := 0) (cs := cs) (by simpa [c9] using q0)
  replace q1 : (cs.drop 1).take 8 = hd.cells := by simpa [c24] using q1
  refine ⟨⟨r, hd⟩, ?_, hr⟩
  match cs, hl, r0, q1 with
  | a :: rest, hl, r0, q1 =>
    simp only [List.getElem?_cons_zero, Option.some.injEq] at r0
    simp only [List.drop_succ_cons, List.drop_zero] at q1
    rw [List.take_of_length_le (by simp at hl; omega)] at q1
    rw [r0, q1]; rfl
/-- the array of four locks by value -/
theorem open_ip {r : Reach} {b0 : Nat} {v : Value} {d : DataW H} {p : List MemPlace} (hv : Value.okWide Try.prog w r b0 27 v) (h : DataW.Trod enc Try.prog w base spare held 27 v d p) :
    ∃ (cs : Array Value) (I : Nat → Lk), v = .agg cs ∧ cs.size = 36 ∧ IpAt cs I := by
  simp only [Value.okWide, Try.underlying27] at hv
  obtain ⟨cs, rfl, hsz, _⟩ := hv
  rw [c27] at hsz
  obtain ⟨fuel, hf⟩ := h
  obtain ⟨xs, m, _, _, hl, hxl, hg⟩ := DataW.trod_array Try.underlying27 hf
  have key : ∀ i, i < 4 → ∃ l : Lk, ((cs.toList.drop (i * 9)).take 9) = l.cells := fun i hi => by
    have h1 := hg i hi
    rw [c26] at h1
    obtain ⟨y, e⟩ : ∃ y, xs[i]? = some y := ⟨xs[i], List.getElem?_eq_getElem (by omega)⟩
    obtain ⟨l, hl, _⟩ := open_lk (h1.trans e)
    exact ⟨l, hl⟩
  have : Inhabited Lk := ⟨⟨⟨#[]⟩, ⟨⟨#[]⟩, 0, false, false, false, false, 0, 0⟩⟩⟩
  obtain ⟨I, hI⟩ : ∃ I : Nat → Lk, ∀ i, i < 4 → ((cs.toList.drop (i * 9)).take 9) = (I i).cells := choose_lt key
  refine ⟨cs, I, rfl, hsz, fun i hi j hj => ?_⟩
  rw [← hI i hi, List.getElem?_take, if_pos hj, List.getElem?_drop, Array.getElem?_toList]
/-- a slice of locks -/
theorem open_ot {d : DataW H} {p : List MemPlace} {a : Option Addr} {n cap : Nat} (h : DataW.Trod enc Try.prog w base spare held 28 (.slice a n cap) d p) :
    ∃ L : Nat → Lk, OtAt w a n L ∧ ∀ i, i < n → (L i).res.size ≤ maxLen := by
  obtain ⟨fuel, hf⟩ := h
  rcases open_slice Try.underlying28 hf with ⟨hcs, _⟩ | ⟨ad, len, cap', m, k, D, Pl, hcs, _, hl, hm, hme, _, hcell⟩
  · simp [Value.cells] at hcs
    obtain ⟨rfl, rfl, rfl⟩ := hcs
    exact ⟨fun _ => ⟨⟨#[]⟩, ⟨⟨#[]⟩, 0, false, false, false, false, 0, 0⟩⟩, fun i hi => by omega, fun i hi => by omega⟩
  · simp [Value.cells] at hcs
    obtain ⟨rfl, rfl, rfl⟩ := hcs
    have hlm : n ≤ m := by rw [hme]; split <;> omega
    have key : ∀ i, i < n → ∃ l : Lk, w.cells? base (ad.add (i * 9)) 9 = some l.cells ∧ l.res.size ≤ maxLen := fun i hi => by
      obtain ⟨cs', h1, h2⟩ := hcell i (by omega)
      rw [c26] at h1
      obtain ⟨l, rfl, hr⟩ := open_lk h2
      exact ⟨l, h1, hr⟩
    have : Inhabited Lk := ⟨⟨⟨#[]⟩, ⟨⟨#[]⟩, 0, false, false, false, false, 0, 0⟩⟩⟩
    obtain ⟨L, hL⟩ : ∃ L : Nat → Lk, ∀ i, i < n → w.cells? base (ad.add (i * 9)) 9 = some (L i).cells ∧ (L i).res.size ≤ maxLen := choose_lt key
    refine ⟨L, fun i hi => ?_, fun i hi => (hL i hi).2⟩
    obtain ⟨h1, h2⟩ := hL i hi
    have hblk := World.cells?_block h1 (by omega)
    obtain ⟨_, _, h3⟩ := World.cells?_some h1
    have hs0 := World.cells?_some (hL 0 (by omega)).1
    have hspot : ad.spot = none := by
      have h4 := hs0.2.2 0 (by omega)
      have : w.cell? (ad.add (0 * 9)) = some (.string (L 0).res) := by simpa [Addr.add, Lk.cells] using h4
      simpa [Addr.add] using World.cell?_spot this
    obtain ⟨b, o, sp⟩ := ad
    simp only at hspot
    subst hspot
    refine ⟨b, o, rfl, ?_, LkAt.of_range fun j hj => ?_⟩
    · rw [Addr.add_mid] at hblk; exact hblk
    · have := h3 j hj
      rw [Addr.add_mid, Addr.add_mid] at this
      exact this
/-- a slice of ints -/
theorem open_ut {d : DataW H} {p : List MemPlace} {a : Option Addr} {n cap : Nat} (h : DataW.Trod enc Try.prog w base spare held 29 (.slice a n cap) d p) : ∃ U : Nat → Int, UtAt w a n U := by
  obtain ⟨fuel, hf⟩ := h
  rcases open_ints Try.underlying29 Try.underlying3 c3 hf with ⟨hcs, _⟩ | ⟨ad, l, c, zs, hcs, _, hl, hm, hz, _, hcell, hwz⟩
  · simp [Value.cells] at hcs
    obtain ⟨rfl, rfl, rfl⟩ := hcs
    exact ⟨fun _ => 0, fun i hi => by omega⟩
  · simp [Value.cells] at hcs
    obtain ⟨rfl, rfl, rfl⟩ := hcs
    have hlz : n ≤ zs.length := by rw [hz]; split <;> omega
    refine ⟨fun i => zs.getD i 0, fun i hi => ?_⟩
    have hspot : ad.spot = none := by simpa [Addr.add] using World.cell?_spot (hcell 0 (by omega))
    obtain ⟨b, o, sp⟩ := ad
    simp only at hspot
    subst hspot
    have h1 := hcell i (by omega)
    rw [Addr.add_mid] at h1
    exact ⟨b, o, rfl, block_lt_of_cell h1, h1⟩
end
end Go.Proofs.Qxb6605402a
