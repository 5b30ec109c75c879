/-
  THE PLAIN LAW under FnScheduleStartingEveryFreeStepReachesTheEnd, and her bound on the total length.
-/
import Derived.Test.Qxb6618524aModsWalkF
import Derived.Test.Qxb6618524aModsOpen
namespace Go.Proofs.Qxb6618524aMods
open Go.RowKit
set_option linter.unusedVariables false

theorem Is.below {w w' : World} {ao : Option Addr} {n : Nat} {z : Nat → Int} (h : Is w ao n z) (hb : Below w.heap.size w w') : Is w' ao n z := by
  intro hn
  obtain ⟨b, off, rfl, hc⟩ := h hn
  have hbb : b < w.heap.size := World.block_lt_of_cell? w ⟨b, off + 0, none⟩ (hc 0 hn)
  exact ⟨b, off, rfl, fun i hi => (hb.cell (by exact hbb)).trans (hc i hi)⟩

/-- The first k of the order, as a set. -/
def stN (z : Nat → Int) : Nat → Nat → Bool
  | 0 => fun _ => false
  | k + 1 => upd (stN z k) (z k).toNat
/-- .. and with what was given. -/
def gN (G : Nat → Bool) (z : Nat → Int) : Nat → Nat → Bool
  | 0 => G
  | k + 1 => upd (gN G z k) (z k).toNat
/-- The first k of the order are steps from nx on that are not given, no one twice. -/
def Ord (z : Nat → Int) (G : Nat → Bool) (nx n k : Nat) : Prop := ∀ j, j < k → ∃ o : Nat, z j = (o : Int) ∧ nx ≤ o ∧ o < n ∧ G o = false ∧ stN z j o = false
theorem stN_succ {z : Nat → Int} {k o : Nat} (h : z k = (o : Int)) : stN z (k + 1) = upd (stN z k) o := by rw [stN, h]; rfl
theorem gN_succ {G : Nat → Bool} {z : Nat → Int} {k o : Nat} (h : z k = (o : Int)) : gN G z (k + 1) = upd (gN G z k) o := by rw [gN, h]; rfl
theorem Ord.step {z : Nat → Int} {G : Nat → Bool} {nx n k o : Nat} (h : Ord z G nx n k) (h1 : z k = (o : Int)) (h2 : nx ≤ o) (h3 : o < n) (h4 : G o = false) (h5 : stN z k o = false) : Ord z G nx n (k + 1) := by
  intro j hj
  rcases Nat.lt_or_ge j k with h' | h'
  · exact h j h'
  · obtain rfl : j = k := by omega
    exact ⟨o, h1, h2, h3, h4, h5⟩
theorem Ord.cnt {z : Nat → Int} {G : Nat → Bool} {nx n k : Nat} (h : Ord z G nx n k) : cnt (stN z k) n = k := by
  induction k with
  | zero => exact cnt_false n
  | succ k ih =>
    obtain ⟨o, h1, h2, h3, h4, h5⟩ := h k (by omega)
    rw [stN_succ h1, cnt_upd h3 h5, ih (fun j hj => h j (by omega))]
theorem gN_or (G : Nat → Bool) (z : Nat → Int) (k i : Nat) : gN G z k i = (G i || stN z k i) := by
  induction k with
  | zero => show G i = (G i || false); simp
  | succ k ih =>
    show upd (gN G z k) _ i = (G i || upd (stN z k) _ i)
    unfold upd
    split
    · simp
    · exact ih
theorem Ord.free {z : Nat → Int} {G : Nat → Bool} {nx n k : Nat} (h : Ord z G nx n k) {i : Nat} (hi : stN z k i = true) : nx ≤ i ∧ i < n ∧ G i = false := by
  induction k with
  | zero => cases hi
  | succ k ih =>
    obtain ⟨o, h1, h2, h3, h4, h5⟩ := h k (by omega)
    rw [stN_succ h1] at hi
    by_cases e : i = o
    · subst e; exact ⟨h2, h3, h4⟩
    · rw [upd_other _ e] at hi
      exact ih (fun j hj => h j (by omega)) hi
/-- A step from nx on that is not given. -/
def fr (G : Nat → Bool) (nx : Nat) : Nat → Bool := fun j => decide (nx ≤ j) && !G j
theorem fr_start (G : Nat → Bool) (nx : Nat) : cnt (fr G nx) nx = 0 := by
  rw [cnt_congr (g := fun _ => false) (fun k hk => by unfold fr; simp; omega), cnt_false]
theorem fr_given {G : Nat → Bool} {nx k : Nat} (h : nx ≤ k) (hg : G k = true) : cnt (fr G nx) (k + 1) = cnt (fr G nx) k := by
  rw [cnt]; unfold fr; simp [hg]
theorem fr_free {G : Nat → Bool} {nx k : Nat} (h : nx ≤ k) (hg : G k = false) : cnt (fr G nx) (k + 1) = cnt (fr G nx) k + 1 := by
  rw [cnt]; unfold fr; simp [hg, h]
theorem cnt_mono {f g : Nat → Bool} {n : Nat} (h : ∀ k, k < n → f k = true → g k = true) : cnt f n ≤ cnt g n := by
  induction n with
  | zero => exact Nat.le_refl _
  | succ n ih =>
    rw [cnt, cnt]
    have h1 := ih (fun k hk => h k (by omega))
    have h2 : (f n).toNat ≤ (g n).toNat := by
      cases e : f n with
      | false => exact Nat.zero_le _
      | true => rw [h n (by omega) e]; exact Nat.le_refl _
    omega
theorem cnt_all {f g : Nat → Bool} {n : Nat} (h : ∀ k, k < n → f k = true → g k = true) (he : cnt f n = cnt g n) : ∀ k, k < n → g k = true → f k = true := by
  induction n with
  | zero => intro k hk; omega
  | succ n ih =>
    rw [cnt, cnt] at he
    have h1 := cnt_mono (f := f) (g := g) (n := n) (fun k hk => h k (by omega))
    have h2 : (f n).toNat ≤ (g n).toNat := by
      cases e : f n with
      | false => exact Nat.zero_le _
      | true => rw [h n (by omega) e]; exact Nat.le_refl _
    intro k hk hg
    by_cases e : k = n
    · subst e
      cases e : f k with
      | true => rfl
      | false => rw [e, hg] at he; simp at he; omega
    · exact ih (fun k hk => h k (by omega)) (by omega) k (by omega) hg
/-- As many as are free, all free, no one twice: every one is started. -/
theorem Ord.full {z : Nat → Int} {G : Nat → Bool} {nx n m : Nat} (h : Ord z G nx n m) (hm : Go.Proofs.Qxb6618524aMods.cnt (fr G nx) n = m) {i : Nat} (h1 : nx ≤ i) (h2 : i < n) : gN G z m i = true := by
  rw [gN_or]
  cases e : G i with
  | true => rfl
  | false =>
    have := cnt_all (f := stN z m) (g := fr G nx) (n := n) (fun k hk hs => by obtain ⟨a, b, c⟩ := h.free hs; unfold fr; simp [a, c]) (by rw [h.cnt, hm]) i h2 (by unfold fr; simp [h1, e])
    rw [this]; rfl

set_option maxHeartbeats 800000 in
theorem fits10 (ga da oa : Option Addr) (n gc nd dc m oc : Nat) (x : Int) (w : World) (h1 : n ≤ 9223372036854775807) (h2 : nd ≤ 9223372036854775807) (h3 : m ≤ 9223372036854775807) :
    Calls Trym.prog 10 #[.slice ga n gc, .slice da nd dc, .int .i64 x, .slice oa m oc] w fun e w' => RetB e ∧ w' = w := by
  by_cases a1 : 1048576 < n
  · go_enter Trym.func10, Trym.ntmps10
    go_wp2
    go_ret
    exact ⟨⟨_, rfl⟩, rfl⟩
  by_cases a2 : 1048576 < nd
  · go_enter Trym.func10, Trym.ntmps10
    go_wp2
    go_ret
    exact ⟨⟨_, rfl⟩, rfl⟩
  by_cases a3 : 1048576 < n + nd
  · go_enter Trym.func10, Trym.ntmps10
    go_wp2
    go_ret
    exact ⟨⟨_, rfl⟩, rfl⟩
  by_cases a4 : 1048576 < m
  · go_enter Trym.func10, Trym.ntmps10
    go_wp2
    go_ret
    exact ⟨⟨_, rfl⟩, rfl⟩
  by_cases a5 : 1048576 < n + nd + m
  · go_enter Trym.func10, Trym.ntmps10
    go_wp2
    go_ret
    exact ⟨⟨_, rfl⟩, rfl⟩
  · go_enter Trym.func10, Trym.ntmps10
    go_wp2
    go_ret
    exact ⟨⟨_, rfl⟩, rfl⟩

/-- What the first loop has laid behind k of the order. -/
structure Seen (w wr : World) (n : Nat) (z : Nat → Int) (G : Nat → Bool) (nx k : Nat) : Prop where
  row : wr.rowIs w.heap.size 4 n (fun i => .bool (stN z k i))
  below : Below w.heap.size w wr
  size : wr.heap.size = w.heap.size + 1
  ord : Ord z G nx n k
theorem Seen.step {w wr : World} {n nx k o : Nat} {z : Nat → Int} {G : Nat → Bool} (h : Seen w wr n z G nx k) (h1 : z k = (o : Int)) (h2 : nx ≤ o) (h3 : o < n) (h4 : G o = false) (h5 : stN z k o = false) :
    Seen w (wr.setCell ⟨w.heap.size, o, none⟩ (.bool true)) n z G nx (k + 1) :=
  ⟨by rw [stN_succ h1]; exact row_upd h.row o, h.below.setCell (by exact Nat.le_refl _) _, by simpa using h.size, h.ord.step h1 h2 h3 h4 h5⟩
end Go.Proofs.Qxb6618524aMods
