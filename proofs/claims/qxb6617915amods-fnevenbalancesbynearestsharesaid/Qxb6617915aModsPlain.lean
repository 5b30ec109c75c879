/-
  THE PLAIN LAWS of pack: no Go in sight. 'S k': the bytes of entry k; 'p': the page size.
-/
namespace Go.Proofs.Qxb6617915aMods.Plain

/-- The last count goes up by one. -/
def inc (cs : List Nat) : List Nat := cs.set (cs.length - 1) (cs.getD (cs.length - 1) 0 + 1)
/-- What pack holds behind k entries: the counts, and the bytes taken of the last page. -/
def pk (S : Nat → Nat) (p : Int) : Nat → List Nat × Int
  | 0 => ([], p)
  | k + 1 => if p ≤ (pk S p k).2 + S k then ((pk S p k).1 ++ [1], 16 + S k) else (inc (pk S p k).1, (pk S p k).2 + S k)
/-- The bytes of the first k. -/
def sm (S : Nat → Nat) : Nat → Nat
  | 0 => 0
  | k + 1 => sm S k + S k

theorem inc_length (cs : List Nat) : (inc cs).length = cs.length := by simp [inc]
theorem pk_new {S : Nat → Nat} {p : Int} {k : Nat} (h : p ≤ (pk S p k).2 + S k) : pk S p (k + 1) = ((pk S p k).1 ++ [1], 16 + (S k : Int)) := by rw [pk, if_pos h]
theorem pk_old {S : Nat → Nat} {p : Int} {k : Nat} (h : ¬ p ≤ (pk S p k).2 + S k) : pk S p (k + 1) = (inc (pk S p k).1, (pk S p k).2 + S k) := by rw [pk, if_neg h]
theorem pk_first (S : Nat → Nat) (p : Int) : p ≤ (pk S p 0).2 + S 0 := by simp only [pk]; omega

theorem pk_pos (S : Nat → Nat) (p : Int) (k : Nat) : 0 < (pk S p (k + 1)).1.length ∧ 16 ≤ (pk S p (k + 1)).2 ∧ (pk S p (k + 1)).2 ≤ 16 + sm S (k + 1) := by
  induction k with
  | zero => rw [pk_new (pk_first S p)]; simp [pk, sm]; omega
  | succ k ih =>
    obtain ⟨h1, h2, h3⟩ := ih
    have e : sm S (k + 1 + 1) = sm S (k + 1) + S (k + 1) := rfl
    by_cases h : p ≤ (pk S p (k + 1)).2 + S (k + 1)
    · rw [pk_new h]; simp; omega
    · rw [pk_old h]; simp [inc_length]; omega
theorem pk_length_le (S : Nat → Nat) (p : Int) (k : Nat) : (pk S p k).1.length ≤ k := by
  induction k with
  | zero => simp [pk]
  | succ k ih =>
    by_cases h : p ≤ (pk S p k).2 + S k
    · rw [pk_new h]; simp; omega
    · rw [pk_old h]; simp [inc_length]; omega

/-- The last element of a list that is not empty, apart. -/
theorem snoc_of {α : Type} (l : List α) (h : 0 < l.length) : ∃ i x, l = i ++ [x] := by
  have hne : l ≠ [] := by intro e; simp [e] at h
  exact ⟨l.dropLast, l.getLast hne, (List.dropLast_concat_getLast hne).symm⟩
theorem inc_snoc (i : List Nat) (x : Nat) : inc (i ++ [x]) = i ++ [x + 1] := by
  unfold inc
  simp

theorem pk_sum (S : Nat → Nat) (p : Int) (k : Nat) : (pk S p k).1.sum = k ∧ ∀ x ∈ (pk S p k).1, 1 ≤ x := by
  induction k with
  | zero => simp [pk]
  | succ k ih =>
    obtain ⟨h1, h2⟩ := ih
    by_cases h : p ≤ (pk S p k).2 + S k
    · rw [pk_new h]
      refine ⟨by simp [h1], fun x hx => ?_⟩
      rcases List.mem_append.1 hx with hx | hx
      · exact h2 x hx
      · simp at hx; omega
    · rw [pk_old h]
      cases k with
      | zero => exact absurd (pk_first S p) h
      | succ k =>
        obtain ⟨i, x, e⟩ := snoc_of _ (pk_pos S p k).1
        rw [e] at h1 h2
        simp only [e, inc_snoc]
        simp at h1
        refine ⟨by simp; omega, fun y hy => ?_⟩
        rcases List.mem_append.1 hy with hy | hy
        · exact h2 y (List.mem_append.2 (.inl hy))
        · simp at hy; omega

/-- The greater page size never needs more pages. -/
theorem pk_grow (S : Nat → Nat) {lo hi : Int} (hl : lo ≤ hi) (k : Nat) :
    (pk S hi (k + 1)).1.length < (pk S lo (k + 1)).1.length ∨ ((pk S hi (k + 1)).1.length = (pk S lo (k + 1)).1.length ∧ (pk S hi (k + 1)).2 ≤ (pk S lo (k + 1)).2) := by
  induction k with
  | zero => rw [pk_new (pk_first S hi), pk_new (pk_first S lo)]; simp [pk]
  | succ k ih =>
    have q := (pk_pos S lo k).2.1
    by_cases h1 : hi ≤ (pk S hi (k + 1)).2 + S (k + 1)
    · by_cases h2 : lo ≤ (pk S lo (k + 1)).2 + S (k + 1)
      · rw [pk_new h1, pk_new h2]; simp; omega
      · rw [pk_new h1, pk_old h2]; simp [inc_length]; omega
    · by_cases h2 : lo ≤ (pk S lo (k + 1)).2 + S (k + 1)
      · rw [pk_old h1, pk_new h2]; simp [inc_length]; omega
      · rw [pk_old h1, pk_old h2]; simp [inc_length]; omega
theorem pk_grow_length (S : Nat → Nat) {lo hi : Int} (hl : lo ≤ hi) (k : Nat) : (pk S hi k).1.length ≤ (pk S lo k).1.length := by
  cases k with
  | zero => simp [pk]
  | succ k => have := pk_grow S hl k; omega
end Go.Proofs.Qxb6617915aMods.Plain
