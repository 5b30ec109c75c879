/-
  THE PLAIN LAWS of pack, part two: each page takes the most that fit.
-/
import Derived.Test.Qxb6617915aModsPlain
namespace Go.Proofs.Qxb6617915aMods.Plain

/-- The bytes of m entries from entry a on. -/
def gs (S : Nat → Nat) (a m : Nat) : Nat := sm (fun i => S (a + i)) m
theorem gs_succ (S : Nat → Nat) (a m : Nat) : gs S a (m + 1) = gs S a m + S (a + m) := rfl
/-- fits, of m entries from entry a on. -/
def fitB (S : Nat → Nat) (a m : Nat) (p : Int) : Bool := decide ((16 + gs S a m : Int) < p) || decide (m = 1)
theorem fitB_one (S : Nat → Nat) (a : Nat) (p : Int) : fitB S a 1 p = true := by simp [fitB]
/-- Every page of the list is full: it fits, and with one entry more it would not. -/
def Full (S : Nat → Nat) (p : Int) (l : List Nat) : Prop :=
  ∀ i, i < l.length → 1 ≤ l.getD i 0 ∧ fitB S (l.take i).sum (l.getD i 0) p = true ∧ fitB S (l.take i).sum (l.getD i 0 + 1) p = false
theorem full_snoc {S : Nat → Nat} {p : Int} {l : List Nat} {x : Nat} (h : Full S p l) (hx : 1 ≤ x) (h1 : fitB S l.sum x p = true) (h2 : fitB S l.sum (x + 1) p = false) : Full S p (l ++ [x]) := by
  intro i hi
  simp at hi
  by_cases hl : i < l.length
  · have e1 : (l ++ [x]).getD i 0 = l.getD i 0 := by simp [List.getD, List.getElem?_append_left hl]
    have e2 : (l ++ [x]).take i = l.take i := List.take_append_of_le_length (by omega)
    rw [e1, e2]; exact h i hl
  · obtain rfl : i = l.length := by omega
    have e1 : (l ++ [x]).getD l.length 0 = x := by simp
    have e2 : (l ++ [x]).take l.length = l := by simp
    rw [e1, e2]; exact ⟨hx, h1, h2⟩
/-- What pack holds: full pages, and one page more. -/
theorem pk_full (S : Nat → Nat) (p : Int) (k : Nat) : ∃ l x, (pk S p (k + 1)).1 = l ++ [x] ∧ Full S p l ∧ 1 ≤ x ∧ l.sum + x = k + 1 ∧ (pk S p (k + 1)).2 = 16 + gs S l.sum x ∧ fitB S l.sum x p = true := by
  induction k with
  | zero =>
    rw [pk_new (pk_first S p)]
    exact ⟨[], 1, rfl, fun i hi => absurd hi (Nat.not_lt_zero _), by omega, rfl, by simp [gs, sm], fitB_one _ _ _⟩
  | succ k ih =>
    obtain ⟨l, x, e, hf, hx, hs, ht, hfit⟩ := ih
    by_cases h : p ≤ (pk S p (k + 1)).2 + S (k + 1)
    · rw [pk_new h]
      refine ⟨l ++ [x], 1, by simp [e], full_snoc hf hx hfit ?_, by omega, by simp; omega, ?_, fitB_one _ _ _⟩
      · rw [ht] at h
        have hg := gs_succ S l.sum x
        rw [hs] at hg
        unfold fitB
        simp only [Bool.or_eq_false_iff, decide_eq_false_iff_not]
        exact ⟨by omega, by omega⟩
      · have e2 : (l ++ [x]).sum = k + 1 := by simp; omega
        rw [e2]; simp [gs, sm]
    · rw [pk_old h]
      have hg := gs_succ S l.sum x
      rw [hs] at hg
      refine ⟨l, x + 1, by simp only [e, inc_snoc], hf, by omega, by omega, ?_, ?_⟩
      · simp only [ht]; omega
      · rw [ht] at h
        unfold fitB
        simp only [Bool.or_eq_true, decide_eq_true_eq]
        left; omega
/-- Page by page: what the law asks. -/
theorem pk_pages (S : Nat → Nat) (p : Int) (n i : Nat) (hi : i < (pk S p n).1.length) :
    1 ≤ (pk S p n).1.getD i 0 ∧ fitB S ((pk S p n).1.take i).sum ((pk S p n).1.getD i 0) p = true ∧
      (((pk S p n).1.take i).sum + (pk S p n).1.getD i 0 < n → fitB S ((pk S p n).1.take i).sum ((pk S p n).1.getD i 0 + 1) p = false) := by
  cases n with
  | zero => simp [pk] at hi
  | succ k =>
    obtain ⟨l, x, e, hf, hx, hs, ht, hfit⟩ := pk_full S p k
    rw [e] at hi ⊢
    simp at hi
    by_cases hl : i < l.length
    · have e1 : (l ++ [x]).getD i 0 = l.getD i 0 := by simp [List.getD, List.getElem?_append_left hl]
      have e2 : (l ++ [x]).take i = l.take i := List.take_append_of_le_length (by omega)
      rw [e1, e2]; obtain ⟨h1, h2, h3⟩ := hf i hl; exact ⟨h1, h2, fun _ => h3⟩
    · obtain rfl : i = l.length := by omega
      have e1 : (l ++ [x]).getD l.length 0 = x := by simp
      have e2 : (l ++ [x]).take l.length = l := by simp
      rw [e1, e2]; exact ⟨hx, hfit, fun h => by omega⟩
end Go.Proofs.Qxb6617915aMods.Plain
