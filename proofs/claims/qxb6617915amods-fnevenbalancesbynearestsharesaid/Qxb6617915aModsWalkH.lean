/-
  EVEN AND ITS MODEL: what the two walks share: the row of counts as it is filled, what is handed back, cuts out of the entries.
-/
import Derived.Test.Qxb6617915aModsWalkG
namespace Go.Proofs.Qxb6617915aMods
open Go.RowKit Plain

/-- What both hand back: the counts, if every page that takes any fits; else nil. -/
def EvOut (w' : World) (v : Value) (S : Nat → Nat) (n L : Nat) (p : Int) : Prop :=
  ((∀ i, i < L → okAt S n L p i) ∧ ∃ g, v = .slice (some ⟨g, 0, none⟩) L L ∧ g < w'.heap.size ∧ ∀ i, i < L → w'.cell? ⟨g, i, none⟩ = some (.int .i64 ((pg S n L i : Nat) : Int))) ∨
  ((∃ i, i < L ∧ ¬ okAt S n L p i) ∧ v = .slice none 0 0)
theorem EvOut.below {w w' : World} {v : Value} {S : Nat → Nat} {n L : Nat} {p : Int} (h : EvOut w v S n L p) (hb : Below w.heap.size w w') : EvOut w' v S n L p := by
  rcases h with ⟨h1, g, hv, hg, hc⟩ | h
  · exact .inl ⟨h1, g, hv, Nat.lt_of_lt_of_le hg hb.size, fun i hi => (hb.cell (by exact hg)).trans (hc i hi)⟩
  · exact .inr h
/-- The row of counts, filled as far as page I. -/
def Fill (B : Nat) (w : World) (g L I : Nat) (S : Nat → Nat) (n : Nat) (p : Int) : Prop :=
  (∃ xs, w.ownsRow B 3 1 (.slice (some ⟨g, 0, none⟩) L L) L xs ∧ ∀ j, j < I → xs[j]? = some (.int .i64 ((pg S n L j : Nat) : Int))) ∧ ∀ j, j < I → okAt S n L p j
section
variable {B : Nat} {w w' : World} {g L I : Nat} {S : Nat → Nat} {n : Nat} {p : Int}
theorem Fill.cell (h : Fill B w g L I S n p) (hI : I < L) : ∃ u, w.cell? ⟨g, I, none⟩ = some u ∧ w.frozen? ⟨g, I, none⟩ = false := by
  obtain ⟨⟨xs, ho, _⟩, _⟩ := h
  have hl : xs.length = L * 1 := ho.1
  exact ⟨xs[I]'(by omega), by rw [ho.cellAt _ (by omega)]; simp, ho.frozenAt _⟩
theorem Fill.step (h : Fill B w g L I S n p) (hI : I < L) (hok : okAt S n L p I) : Fill B (w.setCell ⟨g, I, none⟩ (.int .i64 ((pg S n L I : Nat) : Int))) g L (I + 1) S n p := by
  obtain ⟨⟨xs, ho, hx⟩, hk⟩ := h
  have hl : xs.length = L * 1 := ho.1
  refine ⟨⟨_, (ho.stored I _).1, fun j hj => ?_⟩, fun j hj => ?_⟩
  · rcases Nat.lt_succ_iff_lt_or_eq.1 hj with hj | rfl
    · rw [List.getElem?_set_ne (by omega)]; exact hx j hj
    · rw [List.getElem?_set_self (by omega)]
  · rcases Nat.lt_succ_iff_lt_or_eq.1 hj with hj | rfl
    · exact hk j hj
    · exact hok
theorem Fill.below (h : Fill B w g L I S n p) (hb : Below w.heap.size w w') : Fill B w' g L I S n p := by
  obtain ⟨⟨xs, ho, hx⟩, hk⟩ := h
  exact ⟨⟨xs, ownsRow_below ho (Nat.le_refl _) hb, hx⟩, hk⟩
theorem Fill.alloc (h : Fill B w g L I S n p) (o : Obj) : Fill B (w.alloc o) g L I S n p := by
  obtain ⟨⟨xs, ho, hx⟩, hk⟩ := h
  exact ⟨⟨xs, ho.alloc o, hx⟩, hk⟩
theorem Fill.lt (h : Fill B w g L I S n p) : B ≤ g ∧ g < w.heap.size := by
  obtain ⟨⟨xs, ho, hx⟩, hk⟩ := h
  exact ho.lt g rfl
theorem Fill.done (h : Fill B w g L L S n p) : EvOut w (.slice (some ⟨g, 0, none⟩) L L) S n L p := by
  obtain ⟨⟨xs, ho, hx⟩, hk⟩ := h
  exact .inl ⟨hk, g, rfl, (ho.lt g rfl).2, fun i hi => by rw [ho.cellAt _ (by omega)]; exact hx i hi⟩
theorem Fill.start {xs : List Value} (h : w.ownsRow B 3 1 (.slice (some ⟨g, 0, none⟩) L L) L xs) : Fill B w g L 0 S n p :=
  ⟨⟨xs, h, fun _ hj => absurd hj (Nat.not_lt_zero _)⟩, fun _ hj => absurd hj (Nat.not_lt_zero _)⟩
end

theorem sz_sh (K V : Nat → Hd) (a : Nat) : sz (fun i => K (a + i)) (fun i => V (a + i)) = sh (sz K V) a := rfl
theorem gs_zero (S : Nat → Nat) (n : Nat) : gs S 0 n = sm S n := by show sm (fun i => S (0 + i)) n = _; simp
theorem gs_le_tot (K V : Nat → Hd) (a m n : Nat) (h : a + m ≤ n) : gs (sz K V) a m ≤ tot K V n := by
  have h1 := gs_add (sz K V) 0 a m
  have h2 := gs_zero (sz K V) (a + m)
  have h3 := sm_le K V (a + m)
  have h4 := tot_le K V h
  simp at h1; omega
theorem share_cast (lf L I : Nat) (h : I < L) : (lf : Int) / ((L : Int) - (I : Int)) = ((lf / (L - I) : Nat) : Int) := by
  have : ((L : Int) - (I : Int)) = ((L - I : Nat) : Int) := by omega
  rw [this]; simp

abbrev Cells (w : World) (b off n : Nat) (K V : Nat → Hd) : Prop :=
  ∀ i, i < n → w.cell? ⟨b, off + i * 2, none⟩ = some (.slice (K i).a (K i).n (K i).c) ∧ w.cell? ⟨b, off + i * 2 + 1, none⟩ = some (.slice (V i).a (V i).n (V i).c)
theorem Cells.lt {w : World} {b off n : Nat} {K V : Nat → Hd} (h : Cells w b off n K V) (hn : 0 < n) : b < w.heap.size :=
  World.block_lt_of_cell? w ⟨b, off + 0 * 2, none⟩ (h 0 hn).1
theorem Cells.below {w w' : World} {b off n : Nat} {K V : Nat → Hd} (h : Cells w b off n K V) (hb : Below w.heap.size w w') : Cells w' b off n K V := by
  intro i hi
  have hbb := h.lt (by omega)
  exact ⟨(hb.cell (by exact hbb)).trans (h i hi).1, (hb.cell (by exact hbb)).trans (h i hi).2⟩

theorem fitB_cut (K V : Nat → Hd) (a m : Nat) (p : Int) : fitB (sz (fun i => K (a + i)) (fun i => V (a + i))) 0 m p = fitB (sz K V) a m p := by
  unfold fitB
  have : gs (sz (fun i => K (a + i)) (fun i => V (a + i))) 0 m = gs (sz K V) a m := by rw [gs_zero]; rfl
  rw [this]
theorem pagefits_cut (b off m c a n : Nat) (K V : Nat → Hd) (p : Int) (w : World) (hT : tot K V n ≤ 1048576) (h : a + m ≤ n) (hc : Cells w b off n K V) :
    Calls Trym.prog 18 #[.slice (some ⟨b, off + a * 2, none⟩) m c, .int .i64 p] w fun e w' => e = .returned (.bool (fitB (sz K V) a m p)) ∧ Below w.heap.size w w' := by
  rw [← fitB_cut]
  exact pagefits_any _ m c _ _ p w (by have := tot_cut K V a m; have := tot_le K V h; omega) (es_cut hc a m h)
theorem nearest_cut (b off m c a n share : Nat) (K V : Nat → Hd) (w : World) (hT : tot K V n ≤ 1048576) (h : a + m ≤ n) (hsh : share ≤ 1048576) (hc : Cells w b off n K V) :
    Calls Trym.prog 17 #[.slice (some ⟨b, off + a * 2, none⟩) m c, .int .i64 share] w fun e w' => e = .returned (.int .i64 (nr (sh (sz K V) a) share m : Nat)) ∧ Below w.heap.size w w' := by
  exact nearest_any _ m c share _ _ w (by have := tot_cut K V a m; have := tot_le K V h; omega) hsh (es_cut hc a m h)
theorem nearest_none (ao : Option Addr) (c share : Nat) (w : World) (hsh : share ≤ 1048576) :
    Calls Trym.prog 17 #[.slice ao 0 c, .int .i64 share] w fun e w' => e = .returned (.int .i64 0) ∧ Below w.heap.size w w' :=
  nearest_any ao 0 c share (fun _ => ⟨none, 0, 0⟩) (fun _ => ⟨none, 0, 0⟩) w (by simp [tot]) hsh (fun h => absurd h (Nat.lt_irrefl _))
end Go.Proofs.Qxb6617915aMods
