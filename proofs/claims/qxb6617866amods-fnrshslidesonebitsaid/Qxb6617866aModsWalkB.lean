/-
  THE WALK of FnRshSlidesOneBit: the callees by their contracts, the plain laws laid ahead of the walk.
-/
import Derived.Test.Qxb6617866aModsWalkA
namespace Go.Proofs.Qxb6617866aMods
open Go.RowKit Plain

theorem wd_word {a0 a1 a2 a3 : Int} (h0 : Word a0) (h1 : Word a1) (h2 : Word a2) (h3 : Word a3) (i : Nat) : wd a0.toNat a1.toNat a2.toNat a3.toNat i < 2 ^ 64 :=
  wd_lt (by have := h0.1; have := h0.2; omega) (by have := h1.1; have := h1.2; omega) (by have := h2.1; have := h2.2; omega) (by have := h3.1; have := h3.2; omega) i
theorem bitn_le (v : Nat → Nat) (p : Nat) : bitn v p ≤ 1 := by unfold bitn; omega

theorem law_low {a0 a1 a2 a3 : Int} (h0 : Word a0) (h1 : Word a1) (h2 : Word a2) (h3 : Word a3) (k : Int) :
    bits .and .u64 (R a0 a1 a2 a3 k) 1 = B a0 a1 a2 a3 k 0 := by
  unfold R B
  have h := u64_and_nat (win (wd a0.toNat a1.toNat a2.toNat a3.toNat) k.toNat) 1 (win_lt (wd_word h0 h1 h2 h3) _) (by decide)
  rw [low_bit (wd_word h0 h1 h2 h3)] at h
  rw [Int.add_zero]; exact h
theorem law_top {a0 a1 a2 a3 : Int} (h0 : Word a0) (h1 : Word a1) (h2 : Word a2) (h3 : Word a3) (k : Int) (hk : 0 ≤ k) :
    R a0 a1 a2 a3 k / 9223372036854775808 = B a0 a1 a2 a3 k 63 := by
  unfold R B
  have h := top_bit (wd_word h0 h1 h2 h3) k.toNat
  have e : (k + 63).toNat = k.toNat + 63 := by omega
  rw [e, ← h]; simp
theorem law_slide {a0 a1 a2 a3 : Int} (h0 : Word a0) (h1 : Word a1) (h2 : Word a2) (h3 : Word a3) (k : Int) (hk : 0 ≤ k) :
    R a0 a1 a2 a3 (k + 1) = bits .or .u64 (R a0 a1 a2 a3 k / 2) (IntKind.u64.wrap (B a0 a1 a2 a3 k 64 * 2 ^ 63)) := by
  unfold R B
  have h := slide (wd_word h0 h1 h2 h3) k.toNat
  have e : (k + 64).toNat = k.toNat + 64 := by omega
  have e' : (k + 1).toNat = k.toNat + 1 := by omega
  have hb := bitn_le (wd a0.toNat a1.toNat a2.toNat a3.toNat) (k.toNat + 64)
  have hw := win_lt (wd_word h0 h1 h2 h3) k.toNat
  rw [e, e', h, IntKind.wrap_u64]
  have d1 : (((win (wd a0.toNat a1.toNat a2.toNat a3.toNat) k.toNat : Nat) : Int) / 2) = ((win (wd a0.toNat a1.toNat a2.toNat a3.toNat) k.toNat / 2 : Nat) : Int) := by simp
  have d2 : (((bitn (wd a0.toNat a1.toNat a2.toNat a3.toNat) (k.toNat + 64) : Nat) : Int) * 2 ^ 63 % 18446744073709551616) = ((bitn (wd a0.toNat a1.toNat a2.toNat a3.toNat) (k.toNat + 64) * 2 ^ 63 : Nat) : Int) := by omega
  rw [d1, d2, u64_or_nat _ _ (by omega) (by omega)]

set_option maxHeartbeats 400000 in
theorem slides_walk (a0 a1 a2 a3 k : Int) (h0 : Word a0) (h1 : Word a1) (h2 : Word a2) (h3 : Word a3) (hk : 0 ≤ k) (hk2 : k < 18446744073709551616) (w : World) :
    Calls Trym.prog 3 #[.agg #[.int .u64 a0, .int .u64 a1, .int .u64 a2, .int .u64 a3], .int .u64 k] w fun e w' => e = .returned (.bool true) ∧ Grown w w' := by
  by_cases hm : k = 18446744073709551615
  · subst hm
    go_enter Trym.func3, Trym.ntmps3
    go_wp2
    go_ret
    exact ⟨rfl, by repeat (first | exact Grown.refl _ | apply Grown.drew | apply Grown.alloc)⟩
  · have hk3 : k < 18446744073709551615 := by omega
    have e1 := law_low h0 h1 h2 h3 k
    have e2 := law_slide h0 h1 h2 h3 k hk
    clear hm
    go_enter Trym.func3, Trym.ntmps3
    go_wp2_with fail
    go_at_call 5
    refine (zzrsh_any a0 a1 a2 a3 k h0 h1 h2 h3 hk (by omega) _).mono ?_
    rintro e w' ⟨rfl, c1, c2, rfl⟩
    go_wp2_with fail
    go_at_call 5
    refine (zzrsh_any a0 a1 a2 a3 (k + 1) h0 h1 h2 h3 (by omega) (by omega) _).mono ?_
    rintro e w' ⟨rfl, c3, c4, rfl⟩
    go_wp2_with fail
    go_at_call 6
    refine (bit_any a0 a1 a2 a3 k 0 h0 h1 h2 h3 hk hk2 (by omega) (by omega) _).mono ?_
    rintro e w' ⟨rfl, c5, rfl⟩
    go_wp2_with fail
    go_at_call 6
    refine (bit_any a0 a1 a2 a3 k 64 h0 h1 h2 h3 hk hk2 (by omega) (by omega) _).mono ?_
    rintro e w' ⟨rfl, c6, rfl⟩
    go_wp2_with fail
    go_ret
    exact ⟨rfl, by repeat (first | exact Grown.refl _ | apply Grown.drew | apply Grown.alloc)⟩
end Go.Proofs.Qxb6617866aMods
