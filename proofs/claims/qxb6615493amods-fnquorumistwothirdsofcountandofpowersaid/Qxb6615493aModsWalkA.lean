/-
  THE WALKS of math/bits.Mul64 (by the library's own arithmetic), atLeastTwoThirds, (Tally).Quorum and the law.
-/
import Derived.Test.Qxb6615493aModsRows
import Derived.WalkKit
import Derived.WalkSpells
import Derived.Lib.Mul64
import Derived.Laws.Bits64b
import Derived.Handy
namespace Go.Proofs.Qxb6615493aMods
open Go.RowKit
set_option linter.unusedVariables false

theorem maskN (a : Nat) (ha : a < 18446744073709551616) : bits .and .u64 (a : Int) 4294967295 = ((a % 4294967296 : Nat) : Int) := by
  have h := bits_and_u64_nat a 4294967295 ha (by omega)
  have e : a &&& 4294967295 = a % 4294967296 := Nat.and_two_pow_sub_one_eq_mod a 32
  rw [e] at h
  exact h
theorem divN (a : Nat) : (a : Int) / 4294967296 = ((a / 4294967296 : Nat) : Int) := by omega
theorem mulN (a b : Nat) : (a : Int) * (b : Int) = ((a * b : Nat) : Int) := (Int.natCast_mul a b).symm
theorem addN (a b : Nat) : (a : Int) + (b : Int) = ((a + b : Nat) : Int) := (Int.natCast_add a b).symm
theorem wrapN (a : Nat) (ha : a < 18446744073709551616) : IntKind.u64.wrap (a : Int) = (a : Int) := by rw [IntKind.wrap_u64]; omega
theorem wrapM (a : Nat) : IntKind.u64.wrap (a : Int) = ((a % 18446744073709551616 : Nat) : Int) := by rw [IntKind.wrap_u64]; omega

set_option maxHeartbeats 1000000 in
theorem mul64_any (x y : Nat) (hx : x < 18446744073709551616) (hy : y < 18446744073709551616) (w : World) :
    Calls Trym.prog 18 #[.int .u64 x, .int .u64 y] w fun e w' => e = .returned (.tuple #[.int .u64 ((x * y / 18446744073709551616 : Nat) : Int), .int .u64 ((x * y % 18446744073709551616 : Nat) : Int)]) ∧ w' = w := by
  obtain ⟨bd, bt, bw, hhi⟩ := Lib.mul64_hi x y hx hy
  have ba := Lib.half_mul_le (a := x / 4294967296) (b := y / 4294967296) (by omega) (by omega)
  have bb := Lib.half_mul_le (a := x / 4294967296) (b := y % 4294967296) (by omega) (by omega)
  have bc := Lib.half_mul_le (a := x % 4294967296) (b := y / 4294967296) (by omega) (by omega)
  have ba' : x / 4294967296 * (y / 4294967296) < 18446744073709551616 := by omega
  have bb' : x / 4294967296 * (y % 4294967296) < 18446744073709551616 := by omega
  have bc' : x % 4294967296 * (y / 4294967296) < 18446744073709551616 := by omega
  have bh1 : x / 4294967296 * (y / 4294967296) + (x / 4294967296 * (y % 4294967296) + x % 4294967296 * (y % 4294967296) / 4294967296) / 4294967296 < 18446744073709551616 := by omega
  have bh : x / 4294967296 * (y / 4294967296) + (x / 4294967296 * (y % 4294967296) + x % 4294967296 * (y % 4294967296) / 4294967296) / 4294967296 + ((x / 4294967296 * (y % 4294967296) + x % 4294967296 * (y % 4294967296) / 4294967296) % 4294967296 + x % 4294967296 * (y / 4294967296)) / 4294967296 < 18446744073709551616 := by omega
  go_enter Trym.func18, Trym.ntmps18
  go_wp2
  simp only [maskN x hx, maskN y hy, divN, mulN, addN, wrapN _ bd, wrapN _ bb', wrapN _ bt, maskN _ bt, wrapN _ bc', wrapN _ bw, wrapN _ ba', wrapN _ bh1, wrapN _ bh, wrapM (x * y)]
  rw [hhi]
  go_ret2
  exact ⟨rfl, rfl⟩

theorem mul3 (y : Nat) (hy : y < 18446744073709551616) (w : World) :
    Calls Trym.prog 18 #[.int .u64 3, .int .u64 y] w fun e w' => e = .returned (.tuple #[.int .u64 ((3 * y / 18446744073709551616 : Nat) : Int), .int .u64 ((3 * y % 18446744073709551616 : Nat) : Int)]) ∧ w' = w := mul64_any 3 y (by decide) hy w
theorem mul2 (y : Nat) (hy : y < 18446744073709551616) (w : World) :
    Calls Trym.prog 18 #[.int .u64 2, .int .u64 y] w fun e w' => e = .returned (.tuple #[.int .u64 ((2 * y / 18446744073709551616 : Nat) : Int), .int .u64 ((2 * y % 18446744073709551616 : Nat) : Int)]) ∧ w' = w := mul64_any 2 y (by decide) hy w

set_option maxHeartbeats 800000 in
theorem two_thirds (p t : Nat) (hp : p < 18446744073709551616) (ht : t < 18446744073709551616) (w : World) :
    Calls Trym.prog 15 #[.int .u64 p, .int .u64 t] w fun e w' => e = .returned (.bool (decide (2 * t ≤ 3 * p))) ∧ w' = w := by
  have M3 := mul3 p hp w
  have M2 := mul2 t ht w
  obtain ⟨a3, H1⟩ : ∃ x, Hid (x = 3 * p / 18446744073709551616) := ⟨_, rfl⟩
  obtain ⟨l3, H2⟩ : ∃ x, Hid (x = 3 * p % 18446744073709551616) := ⟨_, rfl⟩
  obtain ⟨a2, H3⟩ : ∃ x, Hid (x = 2 * t / 18446744073709551616) := ⟨_, rfl⟩
  obtain ⟨l2, H4⟩ : ∃ x, Hid (x = 2 * t % 18446744073709551616) := ⟨_, rfl⟩
  rw [← H1.out, ← H2.out] at M3
  rw [← H3.out, ← H4.out] at M2
  have HM3 : Hid (Calls Trym.prog 18 #[.int .u64 3, .int .u64 p] w fun e w' => e = .returned (.tuple #[.int .u64 (a3 : Int), .int .u64 (l3 : Int)]) ∧ w' = w) := M3
  have HM2 : Hid (Calls Trym.prog 18 #[.int .u64 2, .int .u64 t] w fun e w' => e = .returned (.tuple #[.int .u64 (a2 : Int), .int .u64 (l2 : Int)]) ∧ w' = w) := M2
  have Hc : Hid (2 * t ≤ 3 * p ↔ (a2 < a3 ∨ (a2 = a3 ∧ l2 ≤ l3))) := by
    have h1 := H1.out; have h2 := H2.out; have h3 := H3.out; have h4 := H4.out
    show _ ↔ _
    constructor
    · intro h; omega
    · intro h; omega
  clear M3 M2 H1 H2 H3 H4
  by_cases c1 : a2 < a3
  · have hd : Hid (decide (2 * t ≤ 3 * p) = true) := by show _ = _; simp only [decide_eq_true_eq]; exact Hc.out.2 (.inl c1)
    go_enter Trym.func15, Trym.ntmps15
    go_wp2_with fail
    refine Calls.mono HM3.out ?_
    rintro e w' ⟨rfl, rfl⟩
    go_wp2_with fail
    refine Calls.mono HM2.out ?_
    rintro e w'' ⟨rfl, rfl⟩
    go_wp2_with fail
    go_ret
    exact ⟨by rw [hd.out]; rfl, rfl⟩
  by_cases c2 : a2 = a3
  · subst c2
    by_cases c3 : l2 ≤ l3
    · have hd : Hid (decide (2 * t ≤ 3 * p) = true) := by show _ = _; simp only [decide_eq_true_eq]; exact Hc.out.2 (.inr ⟨rfl, c3⟩)
      go_enter Trym.func15, Trym.ntmps15
      go_wp2_with fail
      refine Calls.mono HM3.out ?_
      rintro e w' ⟨rfl, rfl⟩
      go_wp2_with fail
      refine Calls.mono HM2.out ?_
      rintro e w'' ⟨rfl, rfl⟩
      go_wp2_with fail
      go_ret
      exact ⟨by rw [hd.out]; rfl, rfl⟩
    · have hd : Hid (decide (2 * t ≤ 3 * p) = false) := by show _ = _; simp only [decide_eq_false_iff_not]; intro h; have := Hc.out.1 h; omega
      go_enter Trym.func15, Trym.ntmps15
      go_wp2_with fail
      refine Calls.mono HM3.out ?_
      rintro e w' ⟨rfl, rfl⟩
      go_wp2_with fail
      refine Calls.mono HM2.out ?_
      rintro e w'' ⟨rfl, rfl⟩
      go_wp2_with fail
      go_ret
      exact ⟨by rw [hd.out]; rfl, rfl⟩
  · have hd : Hid (decide (2 * t ≤ 3 * p) = false) := by show _ = _; simp only [decide_eq_false_iff_not]; intro h; have := Hc.out.1 h; omega
    have c4 : ((a3 : Int) == (a2 : Int)) = false := by simp; omega
    go_enter Trym.func15, Trym.ntmps15
    go_wp2_with fail
    refine Calls.mono HM3.out ?_
    rintro e w' ⟨rfl, rfl⟩
    go_wp2_with fail
    refine Calls.mono HM2.out ?_
    rintro e w'' ⟨rfl, rfl⟩
    go_wp2_with fail
    go_ret
    exact ⟨by rw [hd.out]; rfl, rfl⟩

/-- Quorum's two tests. -/
def qB (s n p t : Nat) : Bool := decide (2 * n ≤ 3 * s) && decide (2 * t ≤ 3 * p)

set_option maxHeartbeats 800000 in
theorem quorum_any (s n p t : Nat) (hs : s ≤ 3074457345618258602) (hn : n ≤ 3074457345618258602) (hp : p < 18446744073709551616) (ht : t < 18446744073709551616) (w : World) :
    Calls Trym.prog 7 #[.agg #[.int .i64 s, .int .i64 n, .int .u64 p, .int .u64 t]] w fun e w' => e = .returned (.bool (qB s n p t)) ∧ ∃ c1 : Array Value, w' = w.alloc (.cells c1 24) := by
  by_cases c : 2 * n ≤ 3 * s
  · have hq : Hid (qB s n p t = decide (2 * t ≤ 3 * p)) := by show _ = _; unfold qB; simp [c]
    have ci : 2 * (n : Int) ≤ 3 * (s : Int) := by omega
    go_enter Trym.func7, Trym.ntmps7
    go_wp2_with fail
    refine (two_thirds p t hp ht _).mono ?_
    rintro e w' ⟨rfl, rfl⟩
    rw [← hq.out]
    go_wp2_with fail
    go_ret
    exact ⟨rfl, _, rfl⟩
  · have hq : Hid (qB s n p t = false) := by show _ = _; unfold qB; simp [c]
    have ci : 3 * (s : Int) < 2 * (n : Int) := by omega
    go_enter Trym.func7, Trym.ntmps7
    go_wp2_with fail
    go_ret
    exact ⟨by rw [hq.out]; rfl, _, rfl⟩
end Go.Proofs.Qxb6615493aMods
