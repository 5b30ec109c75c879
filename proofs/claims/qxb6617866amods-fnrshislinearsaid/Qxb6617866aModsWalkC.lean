/-
  THE WALK of FnRshIsLinear: the loop of four rounds unrolled (each round three regions that draw their order), the callees by their contracts.
-/
import Derived.Test.Qxb6617866aModsWalkB
import Derived.Handy
namespace Go.Proofs.Qxb6617866aMods
open Go.RowKit Plain

theorem word_of_nat (n : Nat) (h : n < 18446744073709551616) : Word (n : Int) := ⟨by omega, by omega⟩
theorem xor_word {a b : Int} (ha : Word a) (hb : Word b) : Word (bits .xor .u64 a b) ∧ (bits .xor .u64 a b).toNat = a.toNat ^^^ b.toNat := by
  obtain ⟨x1, x2⟩ := ha; obtain ⟨y1, y2⟩ := hb
  rw [u64_xor a b x1 x2 y1 y2]
  have : a.toNat ^^^ b.toNat < 2 ^ 64 := Nat.xor_lt_two_pow (by omega) (by omega)
  exact ⟨word_of_nat _ (by omega), by simp⟩
theorem or_word {a b : Int} (ha : Word a) (hb : Word b) : Word (bits .or .u64 a b) ∧ (bits .or .u64 a b).toNat = a.toNat ||| b.toNat := by
  obtain ⟨x1, x2⟩ := ha; obtain ⟨y1, y2⟩ := hb
  rw [u64_or a b x1 x2 y1 y2]
  have : a.toNat ||| b.toNat < 2 ^ 64 := Nat.or_lt_two_pow (by omega) (by omega)
  exact ⟨word_of_nat _ (by omega), by simp⟩
theorem and_word {a b : Int} (ha : Word a) (hb : Word b) : Word (bits .and .u64 a b) ∧ (bits .and .u64 a b).toNat = a.toNat &&& b.toNat := by
  obtain ⟨x1, x2⟩ := ha; obtain ⟨y1, y2⟩ := hb
  rw [u64_and a b x1 x2 y1 y2]
  have : a.toNat &&& b.toNat < 2 ^ 64 := Nat.and_lt_two_pow _ (by omega)
  exact ⟨word_of_nat _ (by omega), by simp⟩

theorem wd_xor (a0 a1 a2 a3 b0 b1 b2 b3 : Nat) : wd (a0 ^^^ b0) (a1 ^^^ b1) (a2 ^^^ b2) (a3 ^^^ b3) = fun i => wd a0 a1 a2 a3 i ^^^ wd b0 b1 b2 b3 i := by
  funext i; unfold wd; repeat' split
  all_goals simp
theorem wd_or (a0 a1 a2 a3 b0 b1 b2 b3 : Nat) : wd (a0 ||| b0) (a1 ||| b1) (a2 ||| b2) (a3 ||| b3) = fun i => wd a0 a1 a2 a3 i ||| wd b0 b1 b2 b3 i := by
  funext i; unfold wd; repeat' split
  all_goals simp
theorem wd_and (a0 a1 a2 a3 b0 b1 b2 b3 : Nat) : wd (a0 &&& b0) (a1 &&& b1) (a2 &&& b2) (a3 &&& b3) = fun i => wd a0 a1 a2 a3 i &&& wd b0 b1 b2 b3 i := by
  funext i; unfold wd; repeat' split
  all_goals simp

theorem law_xor {a0 a1 a2 a3 b0 b1 b2 b3 : Int} (h0 : Word a0) (h1 : Word a1) (h2 : Word a2) (h3 : Word a3) (g0 : Word b0) (g1 : Word b1) (g2 : Word b2) (g3 : Word b3) (k : Int) : R (bits .xor .u64 a0 b0) (bits .xor .u64 a1 b1) (bits .xor .u64 a2 b2) (bits .xor .u64 a3 b3) k = bits .xor .u64 (R a0 a1 a2 a3 k) (R b0 b1 b2 b3 k) := by
  unfold R
  rw [(xor_word h0 g0).2, (xor_word h1 g1).2, (xor_word h2 g2).2, (xor_word h3 g3).2, wd_xor, win_xor (wd_word h0 h1 h2 h3) (wd_word g0 g1 g2 g3),
    u64_xor_nat _ _ (win_lt (wd_word h0 h1 h2 h3) _) (win_lt (wd_word g0 g1 g2 g3) _)]
theorem law_or {a0 a1 a2 a3 b0 b1 b2 b3 : Int} (h0 : Word a0) (h1 : Word a1) (h2 : Word a2) (h3 : Word a3) (g0 : Word b0) (g1 : Word b1) (g2 : Word b2) (g3 : Word b3) (k : Int) : R (bits .or .u64 a0 b0) (bits .or .u64 a1 b1) (bits .or .u64 a2 b2) (bits .or .u64 a3 b3) k = bits .or .u64 (R a0 a1 a2 a3 k) (R b0 b1 b2 b3 k) := by
  unfold R
  rw [(or_word h0 g0).2, (or_word h1 g1).2, (or_word h2 g2).2, (or_word h3 g3).2, wd_or, win_or (wd_word h0 h1 h2 h3) (wd_word g0 g1 g2 g3),
    u64_or_nat _ _ (win_lt (wd_word h0 h1 h2 h3) _) (win_lt (wd_word g0 g1 g2 g3) _)]
theorem law_and {a0 a1 a2 a3 b0 b1 b2 b3 : Int} (h0 : Word a0) (h1 : Word a1) (h2 : Word a2) (h3 : Word a3) (g0 : Word b0) (g1 : Word b1) (g2 : Word b2) (g3 : Word b3) (k : Int) : R (bits .and .u64 a0 b0) (bits .and .u64 a1 b1) (bits .and .u64 a2 b2) (bits .and .u64 a3 b3) k = bits .and .u64 (R a0 a1 a2 a3 k) (R b0 b1 b2 b3 k) := by
  unfold R
  rw [(and_word h0 g0).2, (and_word h1 g1).2, (and_word h2 g2).2, (and_word h3 g3).2, wd_and, win_and (wd_word h0 h1 h2 h3) (wd_word g0 g1 g2 g3),
    u64_and_nat _ _ (win_lt (wd_word h0 h1 h2 h3) _) (win_lt (wd_word g0 g1 g2 g3) _)]

set_option maxHeartbeats 1600000 in
theorem linear_walk (a0 a1 a2 a3 b0 b1 b2 b3 k : Int) (h0 : Word a0) (h1 : Word a1) (h2 : Word a2) (h3 : Word a3) (g0 : Word b0) (g1 : Word b1) (g2 : Word b2) (g3 : Word b3) (hk : 0 ≤ k) (hk2 : k < 18446744073709551616) (w : World) :
    Calls Trym.prog 4 #[.agg #[.int .u64 a0, .int .u64 a1, .int .u64 a2, .int .u64 a3], .agg #[.int .u64 b0, .int .u64 b1, .int .u64 b2, .int .u64 b3], .int .u64 k] w fun e w' => e = .returned (.bool true) ∧ Grown w w' := by
  go_enter Trym.func4, Trym.ntmps4
  go_wp2
  refine wp_loop_rounds 5 ?_
  iterate 4 (rw [rounds_succ]; go_wp2; go_region; go_wp2; go_region; go_wp2; go_region; go_wp2)
  rw [rounds_succ]
  have e1 := law_xor h0 h1 h2 h3 g0 g1 g2 g3 k
  have e2 := law_or h0 h1 h2 h3 g0 g1 g2 g3 k
  have e3 := law_and h0 h1 h2 h3 g0 g1 g2 g3 k
  have e4 := law_low h0 h1 h2 h3 k
  have e5 := law_top h0 h1 h2 h3 k hk
  go_wp2_with fail
  go_at_call 5
  refine (zzrsh_any a0 a1 a2 a3 k h0 h1 h2 h3 hk hk2 _).mono ?_
  rintro e w' ⟨rfl, c1, c2, rfl⟩
  go_wp2_with fail
  go_at_call 5
  refine (zzrsh_any b0 b1 b2 b3 k g0 g1 g2 g3 hk hk2 _).mono ?_
  rintro e w' ⟨rfl, c3, c4, rfl⟩
  go_wp2_with fail
  go_at_call 5
  refine (zzrsh_any _ _ _ _ k (xor_word h0 g0).1 (xor_word h1 g1).1 (xor_word h2 g2).1 (xor_word h3 g3).1 hk hk2 _).mono ?_
  rintro e w' ⟨rfl, c5, c6, rfl⟩
  go_wp2_with fail
  go_at_call 5
  refine (zzrsh_any _ _ _ _ k (or_word h0 g0).1 (or_word h1 g1).1 (or_word h2 g2).1 (or_word h3 g3).1 hk hk2 _).mono ?_
  rintro e w' ⟨rfl, c7, c8, rfl⟩
  go_wp2_with fail
  go_at_call 5
  refine (zzrsh_any _ _ _ _ k (and_word h0 g0).1 (and_word h1 g1).1 (and_word h2 g2).1 (and_word h3 g3).1 hk hk2 _).mono ?_
  rintro e w' ⟨rfl, c9, c10, rfl⟩
  go_wp2_with fail
  go_at_call 6
  refine (bit_any a0 a1 a2 a3 k 0 h0 h1 h2 h3 hk hk2 (by omega) (by omega) _).mono ?_
  rintro e w' ⟨rfl, c11, rfl⟩
  go_wp2_with fail
  go_at_call 6
  refine (bit_any a0 a1 a2 a3 k 63 h0 h1 h2 h3 hk hk2 (by omega) (by omega) _).mono ?_
  rintro e w' ⟨rfl, c12, rfl⟩
  go_wp2_with fail
  go_ret
  exact ⟨rfl, by go_grown⟩
end Go.Proofs.Qxb6617866aMods
