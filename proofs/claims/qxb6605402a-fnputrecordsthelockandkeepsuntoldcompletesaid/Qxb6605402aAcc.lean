import Derived.Test.Qxb6605402aMap
import Derived.Deep.RegionHeld3
namespace Go.Proofs.Qxb6605402a
open Go.RowKit Go.Maps
set_option linter.unusedVariables false
set_option linter.unusedSimpArgs false

/-- A lock set, in plain data. -/
structure LD where
  N : Nat
  I : Nat → Lk
  m : Nat
  O : Nat → Lk
  F : Nat → Bool
  B : Nat → Nat
  u : Nat
  T : Nat → Nat
  mv : Option Nat
  uv : Value

/-- the cells of the untold list -/
def LD.ucells (S : LD) : List Value := (List.range S.u).flatMap fun j => [.string (S.O (S.T j)).res, .pointer (some ⟨S.B (S.T j), 0, none⟩)]

/-- The lock set S lies at block s; all that belongs to it lies from block 'base' on. -/
structure LS (w : World) (base s : Nat) (S : LD) : Prop where
  hN : S.N ≤ 4
  hm : S.m ≤ 8192
  hu : S.u ≤ 8192
  hbase : base ≤ s
  row : Row w s 79 39
  ip : ∀ i, i < 4 → LkAt w s (i * 9) (S.I i)
  cn : w.cell? ⟨s, 36, none⟩ = some (.int .i64 (S.N : Int))
  cm : w.cell? ⟨s, 37, none⟩ = some (.map S.mv)
  cu : w.cell? ⟨s, 38, none⟩ = some S.uv
  mp : (S.mv = none ∧ S.m = 0) ∨ ∃ mb, S.mv = some mb ∧ base ≤ mb ∧ MapIs w mb S.m S.O S.B
  orow : ∀ i, i < S.m → Row w (S.B i) 82 9
  ohd : ∀ i, i < S.m → HdAt w (S.B i) 0 (S.O i).hd
  ofl : ∀ i, i < S.m → w.cell? ⟨S.B i, 8, none⟩ = some (.bool (S.F i))
  obase : ∀ i, i < S.m → base ≤ S.B i
  inj : ∀ i j, i < S.m → j < S.m → S.B i = S.B j → i = j
  dist : ∀ i j, i < S.m → j < S.m → (S.O i).res = (S.O j).res → i = j
  klen : ∀ i, i < S.m → (S.O i).res.size ≤ maxLen
  tlt : ∀ j, j < S.u → S.T j < S.m
  own : w.ownsRow base 87 2 S.uv S.u S.ucells

variable {w : World} {base s : Nat} {S : LD}

theorem LS.hit (h : LS w base s S) {i : Nat} (hi : i < S.m) : (Instr.lookup 76 (.map S.mv) (.string (S.O i).res) false).run Try.prog w = .ok (.pointer (some ⟨S.B i, 0, none⟩)) w := by
  rcases h.mp with ⟨_, h0⟩ | ⟨mb, e, _, hm⟩
  · omega
  · rw [e]; exact hm.hit hi (h.klen i hi)
theorem LS.miss (h : LS w base s S) {r : ByteArray} (hr : ∀ i, i < S.m → (S.O i).res ≠ r) (hl : r.size ≤ maxLen) : (Instr.lookup 76 (.map S.mv) (.string r) false).run Try.prog w = .ok (.pointer none) w := by
  rcases h.mp with ⟨e, h0⟩ | ⟨mb, e, _, hm⟩
  · rw [e]; exact nil_miss hl
  · rw [e]; exact hm.miss hr hl
theorem LS.len (h : LS w base s S) (ty : TypeId) : (Builtin.len_ #[76] ty #[.map S.mv]).run Try.prog w = .ok (.int .i64 (S.m : Int)) w := by
  rcases h.mp with ⟨e, h0⟩ | ⟨mb, e, _, hm⟩
  · rw [e, h0]; exact Maps.len_nil Try.underlying76 ty
  · rw [e]; exact hm.len ty
theorem LS.uslice (h : LS w base s S) : ∃ a cap, S.uv = .slice a S.u cap := by
  rcases h.own.2 with ⟨e, h0⟩ | ⟨g, cap, cur, e, _⟩
  · exact ⟨none, 0, by rw [e, h0]⟩
  · exact ⟨_, _, e⟩
theorem LS.lt (h : LS w base s S) : s < w.heap.size := h.row.lt

set_option maxHeartbeats 400000 in
/-- ZZN -/
theorem zzn15 (h : LS w base s S) (R : Ending → World → Prop) (hR : R (.returned (.int .i64 (S.N : Int))) w) : Calls Try.prog 15 #[.pointer (some ⟨s, 0, none⟩)] w R := by
  have c := h.cn
  go_enter Try.func15, Try.ntmps15
  go_wp2
  exact hR

set_option maxHeartbeats 400000 in
/-- ZZOthersLen -/
theorem zzol16 (h : LS w base s S) (R : Ending → World → Prop) (hR : R (.returned (.int .i64 (S.m : Int))) w) : Calls Try.prog 16 #[.pointer (some ⟨s, 0, none⟩)] w R := by
  have c := h.cm
  have hl := h.len 3
  go_enter Try.func16, Try.ntmps16
  go_wp2
  exact hR

set_option maxHeartbeats 400000 in
/-- ZZUntoldLen -/
theorem zzul17 (h : LS w base s S) (R : Ending → World → Prop) (hR : R (.returned (.int .i64 (S.u : Int))) w) : Calls Try.prog 17 #[.pointer (some ⟨s, 0, none⟩)] w R := by
  have c := h.cu
  obtain ⟨a, cap, e⟩ := h.uslice
  rw [e] at c
  clear e
  go_enter Try.func17, Try.ntmps17
  go_wp2
  exact hR

set_option maxHeartbeats 400000 in
/-- zzIn -/
theorem zzin40 (h : Hold) (w : World) (R : Ending → World → Prop) (hR : ∀ w', Below w.heap.size w w' → R (.returned (.agg #[.string h.mode, .int .u64 h.ver, .bool h.cdr, .bool h.loc, .bool h.tol, .bool h.wri, .int .u64 h.tok, .int .u64 h.sqn])) w') :
    Calls Try.prog 40 #[.agg #[.string h.mode, .int .u64 h.ver, .bool h.cdr, .bool h.loc, .bool h.tol, .bool h.wri, .int .u64 h.tok, .int .u64 h.sqn]] w R := by
  go_enter Try.func40, Try.ntmps40
  go_wp2
  exact bodyPost_ret (v := .agg #[.string h.mode, .int .u64 h.ver, .bool h.cdr, .bool h.loc, .bool h.tol, .bool h.wri, .int .u64 h.tok, .int .u64 h.sqn]) (by simp [results, Try.results40, go_sem]) rfl (hR _ (((Below.refl _ _).alloc (Nat.le_refl _) _).alloc (by simp) _))

set_option maxHeartbeats 400000 in
/-- zzOut -/
theorem zzout37 (h : Hold) (b o : Nat) (w : World) (hh : HdAt w b o h) (R : Ending → World → Prop) (hR : ∀ w', Below w.heap.size w w' → R (.returned (.agg #[.string h.mode, .int .u64 h.ver, .bool h.cdr, .bool h.loc, .bool h.tol, .bool h.wri, .int .u64 h.tok, .int .u64 h.sqn])) w') :
    Calls Try.prog 37 #[.pointer (some ⟨b, o, none⟩)] w R := by
  obtain ⟨c0, c1, c2, c3, c4, c5, c6, c7⟩ := hh
  have hlt : b < w.heap.size := block_lt_of_cell c0
  go_enter Try.func37, Try.ntmps37
  go_wp2
  go_region_held3 (fun w' => w'.cell? ⟨b, o, none⟩ = some (.string h.mode) ∧ w'.cell? ⟨b, o + 1, none⟩ = some (.int .u64 h.ver) ∧ w'.cell? ⟨b, o + 2, none⟩ = some (.bool h.cdr) ∧ w'.cell? ⟨b, o + 3, none⟩ = some (.bool h.loc) ∧ w'.cell? ⟨b, o + 4, none⟩ = some (.bool h.tol) ∧ w'.cell? ⟨b, o + 5, none⟩ = some (.bool h.wri) ∧ w'.cell? ⟨b, o + 6, none⟩ = some (.int .u64 h.tok) ∧ w'.cell? ⟨b, o + 7, none⟩ = some (.int .u64 h.sqn)) (go_keep) (fail)
  go_wp2
  exact bodyPost_ret (v := .agg #[.string h.mode, .int .u64 h.ver, .bool h.cdr, .bool h.loc, .bool h.tol, .bool h.wri, .int .u64 h.tok, .int .u64 h.sqn]) (by simp [results, Try.results37, go_sem]) rfl (hR _ (((Below.refl _ _).alloc (Nat.le_refl _) _).drew))

end Go.Proofs.Qxb6605402a
