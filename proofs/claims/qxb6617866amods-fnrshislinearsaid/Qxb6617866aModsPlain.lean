/-
  THE PLAIN LAWS of the 64-bit window of a 256-bit number (no Go in sight): 'win v k' is the window at k, 'bitn v p' bit p; proved bit by bit.
-/
namespace Go.Proofs.Qxb6617866aMods.Plain
def wd (v0 v1 v2 v3 : Nat) (i : Nat) : Nat := if i = 0 then v0 else if i = 1 then v1 else if i = 2 then v2 else if i = 3 then v3 else 0
theorem wd_lt {v0 v1 v2 v3 : Nat} (h0 : v0 < 2^64) (h1 : v1 < 2^64) (h2 : v2 < 2^64) (h3 : v3 < 2^64) (i : Nat) : wd v0 v1 v2 v3 i < 2^64 := by
  unfold wd; repeat' split
  all_goals first | assumption | decide
def win (v : Nat → Nat) (k : Nat) : Nat := (v (k/64) / 2 ^ (k%64)) ||| ((v (k/64+1) * 2 ^ (64 - k%64)) % 2^64)
theorem win_testBit {v : Nat → Nat} (h : ∀ i, v i < 2^64) (k j : Nat) : (win v k).testBit j = (decide (j < 64) && (v ((k+j)/64)).testBit ((k+j)%64)) := by
  unfold win
  rw [Nat.testBit_or, Nat.testBit_div_two_pow, Nat.testBit_mod_two_pow, Nat.testBit_mul_two_pow]
  by_cases hj : j < 64
  · simp only [hj, decide_true, Bool.true_and]
    by_cases hs : k % 64 + j < 64
    · have e1 : (k + j) / 64 = k / 64 := by omega
      have e2 : (k + j) % 64 = k % 64 + j := by omega
      have e3 : ¬ (64 - k % 64 ≤ j) := by omega
      rw [e1, e2, Nat.add_comm j]; simp [e3]
    · have e1 : (k + j) / 64 = k / 64 + 1 := by omega
      have e2 : (k + j) % 64 = j - (64 - k % 64) := by omega
      have e3 : (64 - k % 64 ≤ j) := by omega
      rw [e1, e2]
      have : (v (k/64)).testBit (j + k % 64) = false := Nat.testBit_lt_two_pow (Nat.lt_of_lt_of_le (h _) (Nat.pow_le_pow_right (by decide) (by omega)))
      simp [e3, this]
  · have : (v (k/64)).testBit (j + k % 64) = false := Nat.testBit_lt_two_pow (Nat.lt_of_lt_of_le (h _) (Nat.pow_le_pow_right (by decide) (by omega)))
    simp [hj, this]
theorem win_lt {v : Nat → Nat} (h : ∀ i, v i < 2^64) (k : Nat) : win v k < 2^64 := by
  apply Nat.lt_pow_two_of_testBit
  intro j hj
  rw [win_testBit h]
  have : ¬ j < 64 := by omega
  simp [this]
def bitn (v : Nat → Nat) (p : Nat) : Nat := v (p/64) / 2 ^ (p%64) % 2
theorem bitn_eq (v : Nat → Nat) (p : Nat) : bitn v p = ((v (p/64)).testBit (p%64)).toNat := by
  unfold bitn
  rw [Nat.testBit_eq_decide_div_mod_eq]
  rcases Nat.mod_two_eq_zero_or_one (v (p/64) / 2 ^ (p%64)) with h | h <;> simp [h]
theorem toNat_testBit (b : Bool) (j : Nat) : b.toNat.testBit j = (b && decide (j = 0)) := by
  cases b
  · simp
  · cases j
    · simp
    · rename_i n; simp [Nat.testBit_succ]
theorem low_bit {v : Nat → Nat} (h : ∀ i, v i < 2^64) (k : Nat) : win v k &&& 1 = bitn v k := by
  rw [bitn_eq]
  apply Nat.eq_of_testBit_eq
  intro j
  have e1 : Nat.testBit 1 j = decide (j = 0) := by simpa using toNat_testBit true j
  rw [Nat.testBit_and, win_testBit h, toNat_testBit, e1]
  by_cases hj : j = 0
  · subst hj; simp
  · simp [hj]
theorem top_bit {v : Nat → Nat} (h : ∀ i, v i < 2^64) (k : Nat) : win v k / 2^63 = bitn v (k+63) := by
  rw [bitn_eq]
  apply Nat.eq_of_testBit_eq
  intro j
  rw [Nat.testBit_div_two_pow, win_testBit h, toNat_testBit]
  by_cases hj : j = 0
  · subst hj; simp
  · have hj' : ¬ j + 63 < 64 := by omega
    simp [hj, hj']
theorem slide {v : Nat → Nat} (h : ∀ i, v i < 2^64) (k : Nat) : win v (k+1) = (win v k / 2) ||| (bitn v (k+64) * 2^63) := by
  rw [bitn_eq]
  apply Nat.eq_of_testBit_eq
  intro j
  rw [win_testBit h, Nat.testBit_or, ← Nat.pow_one 2, Nat.testBit_div_two_pow, win_testBit h, Nat.pow_one, Nat.testBit_mul_two_pow, toNat_testBit]
  have e1 : k + 1 + j = k + (j + 1) := by omega
  rw [e1]
  by_cases hj : j < 63
  · have a1 : j < 64 := by omega
    have a2 : j + 1 < 64 := by omega
    have a3 : ¬ 63 ≤ j := by omega
    simp [a1, a2, a3]
  · by_cases hj2 : j = 63
    · subst hj2; simp
    · have a1 : ¬ j < 64 := by omega
      have a2 : ¬ j + 1 < 64 := by omega
      have a3 : ¬ j - 63 = 0 := by omega
      simp [a1, a2, a3]
theorem win_xor {v w : Nat → Nat} (h : ∀ i, v i < 2^64) (h' : ∀ i, w i < 2^64) (k : Nat) : win (fun i => v i ^^^ w i) k = win v k ^^^ win w k := by
  apply Nat.eq_of_testBit_eq
  intro j
  rw [Nat.testBit_xor, win_testBit (fun i => Nat.xor_lt_two_pow (h i) (h' i)), win_testBit h, win_testBit h', Nat.testBit_xor]
  cases decide (j < 64) <;> simp
theorem win_or {v w : Nat → Nat} (h : ∀ i, v i < 2^64) (h' : ∀ i, w i < 2^64) (k : Nat) : win (fun i => v i ||| w i) k = win v k ||| win w k := by
  apply Nat.eq_of_testBit_eq
  intro j
  rw [Nat.testBit_or, win_testBit (fun i => Nat.or_lt_two_pow (h i) (h' i)), win_testBit h, win_testBit h', Nat.testBit_or]
  cases decide (j < 64) <;> simp
theorem win_and {v w : Nat → Nat} (h : ∀ i, v i < 2^64) (h' : ∀ i, w i < 2^64) (k : Nat) : win (fun i => v i &&& w i) k = win v k &&& win w k := by
  apply Nat.eq_of_testBit_eq
  intro j
  rw [Nat.testBit_and, win_testBit (fun i => Nat.and_lt_two_pow _ (h' i)), win_testBit h, win_testBit h', Nat.testBit_and]
  cases decide (j < 64) <;> simp
end Go.Proofs.Qxb6617866aMods.Plain
