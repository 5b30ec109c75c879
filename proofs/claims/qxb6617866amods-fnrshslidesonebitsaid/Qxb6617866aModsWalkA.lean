/-
  THE WALKS of the three functions that both laws go through: (uint256).rsh, ZZRsh, bitOf256.
-/
import Derived.Test.Qxb6617866aModsRows
import Derived.Test.Qxb6617866aModsPlain
import Derived.WalkKit
import Derived.WalkSpells
namespace Go.Proofs.Qxb6617866aMods
open Go.RowKit Plain

/-- A word. -/
def Word (x : Int) : Prop := 0 ≤ x ∧ x < 18446744073709551616
/-- The window at k of the number of the four words. -/
def R (a0 a1 a2 a3 k : Int) : Int := ((win (wd a0.toNat a1.toNat a2.toNat a3.toNat) k.toNat : Nat) : Int)
/-- Bit k + j of the number of the four words. -/
def B (a0 a1 a2 a3 k j : Int) : Int := ((bitn (wd a0.toNat a1.toNat a2.toNat a3.toNat) (k + j).toNat : Nat) : Int)

theorem or_form (x y k : Int) (hx : Word x) (hy : Word y) (hk : 0 ≤ k) :
    bits .or .u64 (x / 2 ^ (k % 64).toNat) (IntKind.u64.wrap (y * 2 ^ (64 - k % 64).toNat)) =
      ((x.toNat / 2 ^ (k.toNat % 64) ||| (y.toNat * 2 ^ (64 - k.toNat % 64)) % 2 ^ 64 : Nat) : Int) := by
  obtain ⟨x1, x2⟩ := hx; obtain ⟨y1, y2⟩ := hy
  obtain ⟨x, rfl⟩ := Int.eq_ofNat_of_zero_le x1
  obtain ⟨y, rfl⟩ := Int.eq_ofNat_of_zero_le y1
  obtain ⟨k, rfl⟩ := Int.eq_ofNat_of_zero_le hk
  have e1 : ((k : Int) % 64).toNat = k % 64 := by omega
  have e2 : (64 - (k : Int) % 64).toNat = 64 - k % 64 := by omega
  rw [e1, e2, IntKind.wrap_u64]
  have d1 : ((x : Int) / 2 ^ (k % 64)) = ((x / 2 ^ (k % 64) : Nat) : Int) := by simp
  have d2 : ((y : Int) * 2 ^ (64 - k % 64) % 18446744073709551616) = (((y * 2 ^ (64 - k % 64)) % 2 ^ 64 : Nat) : Int) := by simp
  rw [d1, d2, u64_or_nat _ _ (Nat.lt_of_le_of_lt (Nat.div_le_self _ _) (by omega)) (Nat.mod_lt _ (by decide))]
  simp
theorem shr_form (x k : Int) (hx : Word x) (hk : 0 ≤ k) : x / 2 ^ (k % 64).toNat = ((x.toNat / 2 ^ (k.toNat % 64) : Nat) : Int) := by
  obtain ⟨x1, x2⟩ := hx
  obtain ⟨x, rfl⟩ := Int.eq_ofNat_of_zero_le x1
  obtain ⟨k, rfl⟩ := Int.eq_ofNat_of_zero_le hk
  have e1 : ((k : Int) % 64).toNat = k % 64 := by omega
  rw [e1]; simp

theorem ret_int {k : IntKind} {a b : Int} (h : a = b) : Ending.returned (.int k a) = .returned (.int k b) := by rw [h]

set_option maxHeartbeats 400000 in
theorem rsh_any (a0 a1 a2 a3 k : Int) (h0 : Word a0) (h1 : Word a1) (h2 : Word a2) (h3 : Word a3) (hk : 0 ≤ k) (hk2 : k < 18446744073709551616) (w : World) :
    Calls Trym.prog 7 #[.agg #[.int .u64 a0, .int .u64 a1, .int .u64 a2, .int .u64 a3], .int .u64 k] w fun e w' =>
      e = .returned (.int .u64 (R a0 a1 a2 a3 k)) ∧ ∃ c1 : Array Value, w' = w.alloc (.cells c1 29) := by
  have hR : Hid (R a0 a1 a2 a3 k = ((wd a0.toNat a1.toNat a2.toNat a3.toNat (k.toNat / 64) / 2 ^ (k.toNat % 64) ||| (wd a0.toNat a1.toNat a2.toNat a3.toNat (k.toNat / 64 + 1) * 2 ^ (64 - k.toNat % 64)) % 2 ^ 64 : Nat) : Int)) := rfl
  rcases (show k / 64 = 0 ∨ k / 64 = 1 ∨ k / 64 = 2 ∨ k / 64 = 3 ∨ 4 ≤ k / 64 by omega) with h | h | h | h | h
  · have f0 := or_form a0 a1 k h0 h1 hk
    have H : Hid _ := f0; clear f0
    go_enter Trym.func7, Trym.ntmps7
    go_wp2
    go_ret
    have e : k.toNat / 64 = 0 := by omega
    exact ⟨ret_int (by rw [hR.out, H.out, e]; rfl), _, rfl⟩
  · have f0 := or_form a1 a2 k h1 h2 hk
    have H : Hid _ := f0; clear f0
    go_enter Trym.func7, Trym.ntmps7
    go_wp2
    go_ret
    have e : k.toNat / 64 = 1 := by omega
    exact ⟨ret_int (by rw [hR.out, H.out, e]; rfl), _, rfl⟩
  · have f0 := or_form a2 a3 k h2 h3 hk
    have H : Hid _ := f0; clear f0
    go_enter Trym.func7, Trym.ntmps7
    go_wp2
    go_ret
    have e : k.toNat / 64 = 2 := by omega
    exact ⟨ret_int (by rw [hR.out, H.out, e]; rfl), _, rfl⟩
  · have f0 := shr_form a3 k h3 hk
    have H : Hid _ := f0; clear f0
    go_enter Trym.func7, Trym.ntmps7
    go_wp2
    go_ret
    have e : k.toNat / 64 = 3 := by omega
    exact ⟨ret_int (by rw [hR.out, H.out, e]; simp [wd]), _, rfl⟩
  · go_enter Trym.func7, Trym.ntmps7
    go_wp2
    go_ret
    have e : 4 ≤ k.toNat / 64 := by omega
    have e0 : wd a0.toNat a1.toNat a2.toNat a3.toNat (k.toNat / 64) = 0 := by
      unfold wd; rw [if_neg (by omega), if_neg (by omega), if_neg (by omega), if_neg (by omega)]
    have e1 : wd a0.toNat a1.toNat a2.toNat a3.toNat (k.toNat / 64 + 1) = 0 := by
      unfold wd; rw [if_neg (by omega), if_neg (by omega), if_neg (by omega), if_neg (by omega)]
    exact ⟨ret_int (by rw [hR.out, e0, e1]; simp), _, rfl⟩

set_option maxHeartbeats 400000 in
theorem zzrsh_any (a0 a1 a2 a3 k : Int) (h0 : Word a0) (h1 : Word a1) (h2 : Word a2) (h3 : Word a3) (hk : 0 ≤ k) (hk2 : k < 18446744073709551616) (w : World) :
    Calls Trym.prog 5 #[.agg #[.int .u64 a0, .int .u64 a1, .int .u64 a2, .int .u64 a3], .int .u64 k] w fun e w' =>
      e = .returned (.int .u64 (R a0 a1 a2 a3 k)) ∧ ∃ c1 c2 : Array Value, w' = (w.alloc (.cells c1 23)).alloc (.cells c2 29) := by
  go_enter Trym.func5, Trym.ntmps5
  go_wp2_with (go_at_call 7; refine (rsh_any a0 a1 a2 a3 k h0 h1 h2 h3 hk hk2 _).mono ?_; rintro e w' ⟨rfl, c1, rfl⟩)
  go_ret
  exact ⟨rfl, _, _, rfl⟩

theorem bit_form (x k : Int) (hx : Word x) (hk : 0 ≤ k) : bits .and .u64 (x / 2 ^ (k % 64).toNat) 1 = ((x.toNat / 2 ^ (k.toNat % 64) % 2 : Nat) : Int) := by
  rw [shr_form x k hx hk]
  obtain ⟨x1, x2⟩ := hx
  obtain ⟨x, rfl⟩ := Int.eq_ofNat_of_zero_le x1
  have := u64_and_nat (x / 2 ^ (k.toNat % 64)) 1 (Nat.lt_of_le_of_lt (Nat.div_le_self _ _) (by omega)) (by decide)
  rw [nat_mask1] at this
  exact this

set_option maxHeartbeats 400000 in
theorem bit_any (a0 a1 a2 a3 k j : Int) (h0 : Word a0) (h1 : Word a1) (h2 : Word a2) (h3 : Word a3) (hk : 0 ≤ k) (hk2 : k < 18446744073709551616) (hj : 0 ≤ j) (hj2 : j ≤ 64) (w : World) :
    Calls Trym.prog 6 #[.agg #[.int .u64 a0, .int .u64 a1, .int .u64 a2, .int .u64 a3], .int .u64 k, .int .u64 j] w fun e w' =>
      e = .returned (.int .u64 (B a0 a1 a2 a3 k j)) ∧ ∃ c1 : Array Value, w' = w.alloc (.cells c1 23) := by
  have hB : Hid (B a0 a1 a2 a3 k j = ((wd a0.toNat a1.toNat a2.toNat a3.toNat ((k + j).toNat / 64) / 2 ^ ((k + j).toNat % 64) % 2 : Nat) : Int)) := rfl
  by_cases hbig : 256 ≤ k + j
  · have e0 : wd a0.toNat a1.toNat a2.toNat a3.toNat ((k + j).toNat / 64) = 0 := by
      unfold wd; rw [if_neg (by omega), if_neg (by omega), if_neg (by omega), if_neg (by omega)]
    have H0 : Hid _ := e0; clear e0
    by_cases hk3 : 256 ≤ k
    · go_enter Trym.func6, Trym.ntmps6
      go_wp2
      go_ret
      exact ⟨ret_int (by rw [hB.out, H0.out]; simp), _, rfl⟩
    · go_enter Trym.func6, Trym.ntmps6
      go_wp2
      go_ret
      exact ⟨ret_int (by rw [hB.out, H0.out]; simp), _, rfl⟩
  · rcases (show (k + j) / 64 = 0 ∨ (k + j) / 64 = 1 ∨ (k + j) / 64 = 2 ∨ (k + j) / 64 = 3 by omega) with h | h | h | h
    · have f0 := bit_form a0 (k + j) h0 (by omega)
      have H : Hid _ := f0; clear f0
      go_enter Trym.func6, Trym.ntmps6
      go_wp2
      go_ret
      have e : (k + j).toNat / 64 = 0 := by omega
      exact ⟨ret_int (by rw [hB.out, H.out, e]; rfl), _, rfl⟩
    · have f0 := bit_form a1 (k + j) h1 (by omega)
      have H : Hid _ := f0; clear f0
      go_enter Trym.func6, Trym.ntmps6
      go_wp2
      go_ret
      have e : (k + j).toNat / 64 = 1 := by omega
      exact ⟨ret_int (by rw [hB.out, H.out, e]; rfl), _, rfl⟩
    · have f0 := bit_form a2 (k + j) h2 (by omega)
      have H : Hid _ := f0; clear f0
      go_enter Trym.func6, Trym.ntmps6
      go_wp2
      go_ret
      have e : (k + j).toNat / 64 = 2 := by omega
      exact ⟨ret_int (by rw [hB.out, H.out, e]; rfl), _, rfl⟩
    · have f0 := bit_form a3 (k + j) h3 (by omega)
      have H : Hid _ := f0; clear f0
      go_enter Trym.func6, Trym.ntmps6
      go_wp2
      go_ret
      have e : (k + j).toNat / 64 = 3 := by omega
      exact ⟨ret_int (by rw [hB.out, H.out, e]; rfl), _, rfl⟩
end Go.Proofs.Qxb6617866aMods
