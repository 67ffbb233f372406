import Derived.Test.Qxb6605402aPlp
import Derived.Test.Qxb6605402aAcc4
namespace Go.Proofs.Qxb6605402a
open Go.RowKit Go.Maps
set_option linter.unusedVariables false
set_option linter.unusedSimpArgs false

set_option maxHeartbeats 1000000 in
/-- ZZPut, with the pointer -/
theorem zzput31p (w : World) (base s : Nat) (S : LD) (h : LS w base s S) (hb0 : base ≤ w.heap.size) (hu8 : S.u < 8192) (hm8 : S.m < 8192) (ds : DS S) (r : ByteArray) (hr : r.size ≤ maxLen) (hd : Hold) (R : Ending → World → Prop)
    (hRI : ∀ w' k N1, PlI S r k N1 → LS w' base s (S.setS N1 (updI S.I k ⟨r, hd⟩)) → Below base w w' → R (.returned (.pointer (some ⟨s, k * 9 + 1, none⟩))) w')
    (hRO : ∀ w' i S0 uv, PlO S r i S0 → LS w' base s (S0.putO i hd uv) → Below base w w' → R (.returned (.pointer (some ⟨S0.B i, 0, none⟩))) w') :
    Calls Try.prog 31 #[.pointer (some ⟨s, 0, none⟩), .string r, .agg #[.string hd.mode, .int .u64 hd.ver, .bool hd.cdr, .bool hd.loc, .bool hd.tol, .bool hd.wri, .int .u64 hd.tok, .int .u64 hd.sqn]] w R := by
  have HH := hide h
  have HW := hide ds
  clear h ds
  go_enter Try.func31, Try.ntmps31
  go_wp2_with (first
    | (go_at_call 40; refine zzin40 hd _ _ (fun w1 hb1 => ?_); have B1 := hide (show LS w1 base s S ∧ Below base w w1 from ⟨(HH.out.alloc _).below hb1, ((Below.refl base w).alloc hb0 _).trans (hb1.mono (by simp; omega))⟩); have hz1 : base ≤ w1.heap.size := (by have := hb1.size; simp at this; omega); clear hb1)
    | (go_at_call 41; refine put41 w1 base s S B1.out.1 hz1 hu8 hm8 (fun k i hk hi => HW.out.io k i hk hi) r hr hd _ (fun w2 k N1 p hl hb => ?_) (fun w2 i S0 uv p hl hb => ?_)))
  · exact hRI w2 k N1 p hl (B1.out.2.trans hb)
  · exact hRO w2 i S0 uv p hl (B1.out.2.trans hb)

theorem WS.ds {S : LD} (ws : WS S) : DS S := ⟨fun i j h1 h2 => ws.1.ii i j h1 (by omega), fun i j h1 h2 => ws.1.io i j (by omega) h2⟩

theorem zzputA (w : World) (base s : Nat) (S : LD) (h : LS w base s S) (hb0 : base ≤ w.heap.size) (hu8 : S.u < 8192) (hm8 : S.m < 8192) (ws : WS S) (r : ByteArray) (hr : r.size ≤ maxLen) (hd : Hold) (k : Nat) (hk : k < S.N) (e : (S.I k).res = r) (R : Ending → World → Prop)
    (hR : ∀ w', LS w' base s (S.setS S.N (updI S.I k ⟨r, hd⟩)) → WS (S.setS S.N (updI S.I k ⟨r, hd⟩)) → Below base w w' → R (.returned (.pointer (some ⟨s, k * 9 + 1, none⟩))) w') :
    Calls Try.prog 31 #[.pointer (some ⟨s, 0, none⟩), .string r, .agg #[.string hd.mode, .int .u64 hd.ver, .bool hd.cdr, .bool hd.loc, .bool hd.tol, .bool hd.wri, .int .u64 hd.tok, .int .u64 hd.sqn]] w R := by
  refine zzput31p w base s S h hb0 hu8 hm8 ws.ds r hr hd R (fun w' k' N1 p hl hb => ?_) (fun w' i S0 uv p hl hb => ?_)
  · have hw := ws.ip (N1 := N1) hl.hN p hd
    rcases p with ⟨⟨h1, h2, h3⟩, rfl⟩ | ⟨_, _, _, hn, _⟩
    · have : k' = k := by
        rcases Nat.lt_trichotomy k' k with h' | h' | h'
        · exact (ws.ds.ii k' k h' hk (h2.trans e.symm)).elim
        · exact h'
        · exact (h3 k h' e).elim
      subst this
      exact hR w' hl hw hb
    · exact (hn k hk e).elim
  · rcases p with ⟨_, _, _, hn⟩ | ⟨_, _, hn, _⟩ <;> exact (hn k hk e).elim

theorem zzputC (w : World) (base s : Nat) (S : LD) (h : LS w base s S) (hb0 : base ≤ w.heap.size) (hu8 : S.u < 8192) (hm8 : S.m < 8192) (ws : WS S) (r : ByteArray) (hr : r.size ≤ maxLen) (hd : Hold) (h4 : S.N < 4) (hI : NoI S r) (hO : NoO S r) (R : Ending → World → Prop)
    (hR : ∀ w', LS w' base s (S.setS (S.N + 1) (updI S.I S.N ⟨r, hd⟩)) → WS (S.setS (S.N + 1) (updI S.I S.N ⟨r, hd⟩)) → Below base w w' → R (.returned (.pointer (some ⟨s, S.N * 9 + 1, none⟩))) w') :
    Calls Try.prog 31 #[.pointer (some ⟨s, 0, none⟩), .string r, .agg #[.string hd.mode, .int .u64 hd.ver, .bool hd.cdr, .bool hd.loc, .bool hd.tol, .bool hd.wri, .int .u64 hd.tok, .int .u64 hd.sqn]] w R := by
  refine zzput31p w base s S h hb0 hu8 hm8 ws.ds r hr hd R (fun w' k' N1 p hl hb => ?_) (fun w' i S0 uv p hl hb => ?_)
  · have hw := ws.ip (N1 := N1) hl.hN p hd
    rcases p with ⟨⟨h1, h2, h3⟩, rfl⟩ | ⟨rfl, rfl, _, hn, _⟩
    · exact (hI k' h1 h2).elim
    · exact hR w' hl hw hb
  · rcases p with ⟨_, hi, e, _⟩ | ⟨_, h, _⟩
    · exact (hO i hi e).elim
    · omega

theorem zzputB (w : World) (base s : Nat) (S : LD) (h : LS w base s S) (hb0 : base ≤ w.heap.size) (hu8 : S.u < 8192) (hm8 : S.m < 8192) (ws : WS S) (r : ByteArray) (hr : r.size ≤ maxLen) (hd : Hold) (i : Nat) (hi : i < S.m) (e : (S.O i).res = r) (R : Ending → World → Prop)
    (hR : ∀ w' uv, LS w' base s (S.putO i hd uv) → WS (S.putO i hd uv) → Below base w w' → R (.returned (.pointer (some ⟨S.B i, 0, none⟩))) w') :
    Calls Try.prog 31 #[.pointer (some ⟨s, 0, none⟩), .string r, .agg #[.string hd.mode, .int .u64 hd.ver, .bool hd.cdr, .bool hd.loc, .bool hd.tol, .bool hd.wri, .int .u64 hd.tok, .int .u64 hd.sqn]] w R := by
  have hnI : NoI S r := fun k hk e' => ws.ds.io k i hk hi (e'.trans e.symm)
  refine zzput31p w base s S h hb0 hu8 hm8 ws.ds r hr hd R (fun w' k' N1 p hl hb => ?_) (fun w' i' S0 uv p hl hb => ?_)
  · rcases p with ⟨⟨h1, h2, h3⟩, rfl⟩ | ⟨rfl, rfl, _, _, hn⟩
    · exact (hnI k' h1 h2).elim
    · exact (hn i hi e).elim
  · have hw := (PR.ot ws p hd uv).ws
    rcases p with ⟨rfl, hi', e', _⟩ | ⟨_, _, _, hn, _⟩
    · obtain rfl := h.dist i' i hi' hi (e'.trans e.symm)
      exact hR w' uv hl hw hb
    · exact (hn i hi e).elim

theorem zzputD (w : World) (base s : Nat) (S : LD) (h : LS w base s S) (hb0 : base ≤ w.heap.size) (hu8 : S.u < 8192) (hm8 : S.m < 8192) (ws : WS S) (r : ByteArray) (hr : r.size ≤ maxLen) (hd : Hold) (h4 : S.N = 4) (hI : NoI S r) (hO : NoO S r) (R : Ending → World → Prop)
    (hR : ∀ w' l b mb uv, l.res = r → LS w' base s ((S.addO l b mb).putO S.m hd uv) → WS ((S.addO l b mb).putO S.m hd uv) → Below base w w' → R (.returned (.pointer (some ⟨b, 0, none⟩))) w') :
    Calls Try.prog 31 #[.pointer (some ⟨s, 0, none⟩), .string r, .agg #[.string hd.mode, .int .u64 hd.ver, .bool hd.cdr, .bool hd.loc, .bool hd.tol, .bool hd.wri, .int .u64 hd.tok, .int .u64 hd.sqn]] w R := by
  refine zzput31p w base s S h hb0 hu8 hm8 ws.ds r hr hd R (fun w' k' N1 p hl hb => ?_) (fun w' i' S0 uv p hl hb => ?_)
  · rcases p with ⟨⟨h1, h2, h3⟩, rfl⟩ | ⟨rfl, rfl, h, _, _⟩
    · exact (hI k' h1 h2).elim
    · omega
  · have hw := (PR.ot ws p hd uv).ws
    rcases p with ⟨rfl, hi', e', _⟩ | ⟨rfl, _, _, _, l, b, mb, rfl, e, _⟩
    · exact (hO i' hi' e').elim
    · rw [S.addO_B']
      exact hR w' l b mb uv e hl hw hb

end Go.Proofs.Qxb6605402a
