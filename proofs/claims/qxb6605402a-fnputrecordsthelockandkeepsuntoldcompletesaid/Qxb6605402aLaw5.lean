import Derived.Test.Qxb6605402aLaw5A
import Derived.Test.Qxb6605402aLaw5B
import Derived.Test.Qxb6605402aLaw5C
import Derived.Test.Qxb6605402aLaw5D
namespace Go.Proofs.Qxb6605402a
open Go.RowKit Go.Maps
set_option linter.unusedVariables false
set_option linter.unusedSimpArgs false

set_option maxRecDepth 100000 in
set_option maxHeartbeats 10000000 in
theorem law5out (w : World) (cs : Array Value) (hcs : cs.size = 36) (I : Nat → Lk) (hI : IpAt cs I) (x : Int) (a : Option Addr) (L : Nat → Lk) (n cap : Nat) (hL : OtAt w a n L) (hlen : ∀ i, i < n → (L i).res.size ≤ maxLen) (a2 : Option Addr) (u cap2 : Nat) (U : Nat → Int) (hU : UtAt w a2 u U) (r : ByteArray) (hr : r.size ≤ maxLen)
    (mode : ByteArray) (ver : Int) (cdr lo tt wri : Bool) (tok sqn : Int) (hx : ¬ (0 ≤ x ∧ x ≤ 4)) (R : Ending → World → Prop) (hR : ∀ w', Below w.heap.size w w' → R (.returned (.bool true)) w') :
    Calls Try.prog 5 #[.agg cs, .int .i64 x, .slice a n cap, .slice a2 u cap2, .string r, .agg #[.string mode, .int .u64 ver, .bool cdr, .bool lo, .bool tt, .bool wri, .int .u64 tok, .int .u64 sqn]] w R := by
  have b0 : Below w.heap.size w ((w.alloc (.cells cs 27)).alloc (.cells #[.string mode, .int .u64 ver, .bool cdr, .bool lo, .bool tt, .bool wri, .int .u64 tok, .int .u64 sqn] 24)) := two_below w _ _
  have hL0 := hL.below b0
  have hU0 := hU.below b0
  have s27 : Hid ((Try.prog.info? 27).map (·.size) = some cs.size) := by rw [hcs]; exact Try.size27
  have s24 : Hid ((Try.prog.info? 24).map (·.size) = some (#[Value.string mode, .int .u64 ver, .bool cdr, .bool lo, .bool tt, .bool wri, .int .u64 tok, .int .u64 sqn]).size) := Try.size24
  have bx0 : ((w.alloc (.cells cs 27)).alloc (.cells #[.string mode, .int .u64 ver, .bool cdr, .bool lo, .bool tt, .bool wri, .int .u64 tok, .int .u64 sqn] 24)).heap[w.heap.size]? = some (.cells cs 27) := heap_old _ (heap_new _ _)
  have hx0 : ((w.alloc (.cells cs 27)).alloc (.cells #[.string mode, .int .u64 ver, .bool cdr, .bool lo, .bool tt, .bool wri, .int .u64 tok, .int .u64 sqn] 24)).heap[w.heap.size + 1]? = some (.cells #[.string mode, .int .u64 ver, .bool cdr, .bool lo, .bool tt, .bool wri, .int .u64 tok, .int .u64 sqn] 24) := heap_new2 _ _ _
  clear hcs
  go_enter Try.func5, Try.ntmps5
  go_wp2_with (first
    | (refine wpList_load_row rfl 27 _ rfl w.heap.size rfl 27 cs (0, 0) _ (by assumption) Try.underlying27 rfl s27.out ?_)
    | (refine wpList_load_row rfl 24 _ rfl (w.heap.size + 1) rfl 24 _ (0, 0) _ (by assumption) Try.underlying24 rfl s24.out ?_)
    | (go_at_call 30; refine bytes30 cs I hI x a L n cap a2 u cap2 r ⟨mode, ver, cdr, lo, tt, wri, tok, sqn⟩ _ hL0 _ (fun q1 w1 hb1 => ?_); have B1 := b0.trans (hb1.mono b0.size); have bx1 := blk hb1 bx0 (bx_lt bx0); have hx1 := blk hb1 hx0 (bx_lt hx0); have m1 := cell_of_heap hx1 0; have hL1 := hL.below B1; have hU1 := hU.below B1; clear hb1; cases q1)
    | (go_at_call 8; refine tooBig8 cs I hI a L n cap a2 u cap2 _ _ _ hL1 _ (fun q2 w2 h2 hb2 => ?_); have B2 := B1.trans (hb2.mono B1.size); have bx2 := blk hb2 bx1 (bx_lt bx1); have hL2 := hL.below B2; have hU2 := hU.below B2; clear hb2; obtain ⟨rfl, hn, hu⟩ | rfl : (q2 = false ∧ n ≤ 4096 ∧ u ≤ 4096) ∨ q2 = true := (by cases q2 with | false => exact .inl ⟨rfl, h2 rfl⟩ | true => exact .inr rfl); all_goals clear h2)
    | (go_at_call 9; (refine wellFormed9 cs I hI x a L n cap hn a2 u cap2 hu U _ hL2 hU2 _ (fun q3 w3 h3 hb3 => ?_)); have B3 := B2.trans (hb3.mono B2.size); clear hb3; obtain rfl : q3 = false := (by cases q3 with | false => rfl | true => exact (hx ⟨(h3 rfl).lo, (h3 rfl).hi⟩).elim); clear h3))
  · exact B1
  · exact B3
  · exact B2

theorem law5 (w : World) (cs : Array Value) (hcs : cs.size = 36) (I : Nat → Lk) (hI : IpAt cs I) (x : Int) (a : Option Addr) (L : Nat → Lk) (n cap : Nat) (hL : OtAt w a n L) (hlen : ∀ i, i < n → (L i).res.size ≤ maxLen) (a2 : Option Addr) (u cap2 : Nat) (U : Nat → Int) (hU : UtAt w a2 u U) (r : ByteArray) (hr : r.size ≤ maxLen)
    (mode : ByteArray) (ver : Int) (cdr lo tt wri : Bool) (tok sqn : Int) (R : Ending → World → Prop) (hR : ∀ w', Below w.heap.size w w' → R (.returned (.bool true)) w') :
    Calls Try.prog 5 #[.agg cs, .int .i64 x, .slice a n cap, .slice a2 u cap2, .string r, .agg #[.string mode, .int .u64 ver, .bool cdr, .bool lo, .bool tt, .bool wri, .int .u64 tok, .int .u64 sqn]] w R := by
  by_cases hx : 0 ≤ x ∧ x ≤ 4
  case neg => exact law5out w cs hcs I hI x a L n cap hL hlen a2 u cap2 U hU r hr mode ver cdr lo tt wri tok sqn hx R hR
  obtain ⟨N, rfl⟩ : ∃ N : Nat, x = N := ⟨x.toNat, by omega⟩
  have hN : N ≤ 4 := by omega
  by_cases hA : ∃ k, k < N ∧ (I k).res = r
  · exact law5A w cs hcs I hI N hN a L n cap hL hlen a2 u cap2 U hU r hr mode ver cdr lo tt wri tok sqn hA R hR
  · have hnI : ∀ i, i < N → (I i).res ≠ r := fun i hi e => hA ⟨i, hi, e⟩
    by_cases hB : ∃ i, i < n ∧ (L i).res = r
    · exact law5B w cs hcs I hI N hN a L n cap hL hlen a2 u cap2 U hU r hr mode ver cdr lo tt wri tok sqn hnI hB R hR
    · have hnO : ∀ i, i < n → (L i).res ≠ r := fun i hi e => hB ⟨i, hi, e⟩
      by_cases h4 : N < 4
      · exact law5C w cs hcs I hI N hN a L n cap hL hlen a2 u cap2 U hU r hr mode ver cdr lo tt wri tok sqn h4 hnI hnO R hR
      · exact law5D w cs hcs I hI N hN a L n cap hL hlen a2 u cap2 U hU r hr mode ver cdr lo tt wri tok sqn (by omega) hnI hnO R hR

end Go.Proofs.Qxb6605402a
