/-
  THE PLAIN LAWS of even: the greedy cut and the nearest count are one.
-/
import Derived.Test.Qxb6617915aModsPlainB
namespace Go.Proofs.Qxb6617915aMods.Plain

/-- Of the first m entries: the count that both ways of cutting take for a share. -/
def nr (S : Nat → Nat) (share : Nat) : Nat → Nat
  | 0 => 0
  | k + 1 => if k = 0 then 1 else if nr S share k = k ∧ 2 * sm S k + S k ≤ 2 * share then k + 1 else nr S share k
theorem nr_one (S : Nat → Nat) (share : Nat) : nr S share 1 = 1 := by simp [nr]
theorem nr_on {S : Nat → Nat} {share k : Nat} (hk : 0 < k) (h : nr S share k = k) (h2 : 2 * sm S k + S k ≤ 2 * share) : nr S share (k + 1) = k + 1 := by
  rw [nr, if_neg (by omega), if_pos ⟨h, h2⟩]
theorem nr_off {S : Nat → Nat} {share k : Nat} (hk : 0 < k) (h : ¬ (nr S share k = k ∧ 2 * sm S k + S k ≤ 2 * share)) : nr S share (k + 1) = nr S share k := by
  rw [nr, if_neg (by omega), if_neg h]
theorem nr_le (S : Nat → Nat) (share m : Nat) : nr S share m ≤ m := by
  induction m with
  | zero => simp [nr]
  | succ k ih => rw [nr]; split; omega; split <;> omega
theorem nr_pos (S : Nat → Nat) (share m : Nat) (h : 0 < m) : 0 < nr S share m := by
  induction m with
  | zero => omega
  | succ k ih =>
    rw [nr]; split
    · omega
    · split
      · omega
      · exact ih (by omega)
/-- The greedy cut stops at j: so it stays, however many entries follow. -/
theorem nr_stop {S : Nat → Nat} {share j : Nat} (hj : 0 < j) (h : nr S share j = j) (h2 : 2 * share < 2 * sm S j + S j) (d : Nat) : nr S share (j + d) = j := by
  induction d with
  | zero => exact h
  | succ d ih =>
    rw [← Nat.add_assoc, nr_off (by omega) (by rw [ih]; intro ⟨e, e2⟩; obtain rfl : d = 0 := by omega
                                               simp at e2; omega), ih]
theorem nr_short {S : Nat → Nat} {share k : Nat} (h : nr S share k < k) : 2 * share < 2 * sm S (nr S share k) + S (nr S share k) := by
  induction k with
  | zero => omega
  | succ k ih =>
    by_cases hk : k = 0
    · subst hk; rw [nr_one] at h; omega
    · by_cases hc : nr S share k = k ∧ 2 * sm S k + S k ≤ 2 * share
      · rw [nr_on (by omega) hc.1 hc.2] at h; omega
      · rw [nr_off (by omega) hc]
        by_cases he : nr S share k = k
        · rw [he]; rw [he] at hc; omega
        · exact ih (by have := nr_le S share k; omega)
theorem sm_mono {S : Nat → Nat} (hS : ∀ i, 0 < S i) {a b : Nat} (h : a < b) : sm S a < sm S b := by
  induction b with
  | zero => omega
  | succ b ih =>
    have := hS b
    have e : sm S (b + 1) = sm S b + S b := rfl
    rcases Nat.lt_succ_iff_lt_or_eq.1 h with h | rfl
    · have := ih h; omega
    · omega
/-- How far a number lies from the share. -/
def far (x share : Int) : Int := if x - share < 0 then -(x - share) else x - share
theorem far_le {x y s : Int} (h : x < y) : far y s ≤ far x s ↔ x + y ≤ 2 * s := by
  unfold far; split <;> split <;> constructor <;> intro <;> omega
/-- The count that lies nearest, found entry by entry. -/
theorem nr_near {S : Nat → Nat} (hS : ∀ i, 0 < S i) {share k : Nat} : (far (sm S (k + 1) : Nat) share ≤ far (sm S (nr S share k) : Nat) share) ↔ (nr S share k = k ∧ 2 * sm S k + S k ≤ 2 * share) := by
  have e : sm S (k + 1) = sm S k + S k := rfl
  have hle := nr_le S share k
  have hlt : sm S (nr S share k) < sm S (k + 1) := sm_mono hS (by omega)
  rw [far_le (by omega)]
  by_cases hk : nr S share k = k
  · rw [hk]; constructor
    · intro h; exact ⟨rfl, by omega⟩
    · intro ⟨_, h⟩; omega
  · have hs := nr_short (show nr S share k < k by omega)
    have e2 : sm S (nr S share k + 1) = sm S (nr S share k) + S (nr S share k) := rfl
    have hm : sm S (nr S share k + 1) ≤ sm S (k + 1) := by
      rcases Nat.lt_or_ge (nr S share k + 1) (k + 1) with h | h
      · exact Nat.le_of_lt (sm_mono hS h)
      · omega
    constructor
    · intro h; omega
    · intro ⟨h, _⟩; exact absurd h hk

/-- The sizes from entry a on. -/
def sh (S : Nat → Nat) (a : Nat) : Nat → Nat := fun i => S (a + i)
theorem gs_sh (S : Nat → Nat) (a m : Nat) : gs S a m = sm (sh S a) m := rfl
/-- What page i of L takes of n entries, from entry pos on. -/
def cnt (S : Nat → Nat) (n L i pos : Nat) : Nat := if i + 1 < L then nr (sh S pos) (gs S pos (n - pos) / (L - i)) (n - pos) else n - pos
/-- Where page i begins. -/
def evp (S : Nat → Nat) (n L : Nat) : Nat → Nat
  | 0 => 0
  | i + 1 => evp S n L i + cnt S n L i (evp S n L i)
theorem cnt_le (S : Nat → Nat) (n L i pos : Nat) : cnt S n L i pos ≤ n - pos := by
  unfold cnt; split
  · exact nr_le _ _ _
  · exact Nat.le_refl _
theorem evp_le (S : Nat → Nat) (n L i : Nat) : evp S n L i ≤ n := by
  induction i with
  | zero => simp [evp]
  | succ i ih => have := cnt_le S n L i (evp S n L i); rw [evp]; omega
theorem gs_add (S : Nat → Nat) (a m d : Nat) : gs S a (m + d) = gs S a m + gs S (a + m) d := by
  induction d with
  | zero => simp [gs, sm]
  | succ d ih => rw [← Nat.add_assoc, gs_succ, gs_succ, ih, Nat.add_assoc a m d, Nat.add_assoc]
/-- Page i takes none, or what it takes fits. -/
def okAt (S : Nat → Nat) (n L : Nat) (p : Int) (i : Nat) : Prop := cnt S n L i (evp S n L i) = 0 ∨ fitB S (evp S n L i) (cnt S n L i (evp S n L i)) p = true
/-- What page i takes. -/
def pg (S : Nat → Nat) (n L i : Nat) : Nat := cnt S n L i (evp S n L i)
end Go.Proofs.Qxb6617915aMods.Plain
