/-
  Slices of bools and of ints, as they come in.
-/
import Derived.Test.Qxb6618524aModsBase
import Derived.ProofKit
import Derived.OpenShut
import Derived.ChangeOld
import Derived.Deep.Slices
namespace Go.Proofs.Qxb6618524aMods
open Go.ChangeShapes Go.WideShapes Go.ChangeAt Go.RowKit Go.Deep

theorem own : ownKnob Trym.prog.godebug = none := by kernel_rfl
theorem laidOut : laidOutB Trym.prog = true := by kernel_rfl
theorem cells4 : Trym.prog.cellsOf 4 = 1 := by kernel_rfl
theorem cells3 : Trym.prog.cellsOf 3 = 1 := by kernel_rfl

theorem open_bs {H : Type} {enc : TypeId × Value → H} {W : World} {base fuel : Nat} {sp : Nat → Bool} {hl : Bool} {ao : Option Addr} {n c : Nat} {x : DataW H × List MemPlace} (h : DataW.trod enc Trym.prog W base sp hl fuel 22 [.slice ao n c] = some x) :
    ∃ G : Nat → Bool, Bs W ao n G ∧ n ≤ 9223372036854775807 := by
  rcases open_slice1 Trym.underlying22 cells4 h with ⟨h0, _⟩ | ⟨a, len, cap, m, k, V, D, Pl, h0, hb, hle, hm, hmm, hx, hel⟩
  · simp at h0
    obtain ⟨rfl, rfl, rfl⟩ := h0
    exact ⟨fun _ => false, fun h => absurd h (Nat.lt_irrefl _), by omega⟩
  · simp at h0
    obtain ⟨rfl, rfl, rfl⟩ := h0
    have hnm : n ≤ m := by rw [hmm]; split <;> omega
    have each : ∀ i, i < n → ∃ q : Bool, W.cell? (a.add i) = some (.bool q) := by
      intro i hi
      obtain ⟨h1, h2⟩ := hel i (by omega)
      obtain ⟨q, e, _⟩ := DataW.trod_bool Trym.underlying4 h2
      simp at e
      exact ⟨q, by rw [h1, e]⟩
    obtain ⟨q, hq⟩ := choose_lt each
    refine ⟨q, fun hn => ?_, by unfold maxLen at hm; omega⟩
    obtain ⟨b, off, spot⟩ := a
    have hspot : spot = none := by simpa [Addr.add] using World.cell?_spot (hq 0 hn)
    subst hspot
    refine ⟨b, off, rfl, fun i hi => ?_⟩
    have h1 := hq i hi
    rw [Addr.add_lit] at h1
    exact h1

/-- A slice of ints that came in. -/
def Is (w : World) (ao : Option Addr) (n : Nat) (z : Nat → Int) : Prop :=
  0 < n → ∃ b off, ao = some ⟨b, off, none⟩ ∧ ∀ i, i < n → w.cell? ⟨b, off + i, none⟩ = some (.int .i64 (z i))
theorem open_is {H : Type} {enc : TypeId × Value → H} {W : World} {base fuel : Nat} {sp : Nat → Bool} {hl : Bool} {ao : Option Addr} {n c : Nat} {x : DataW H × List MemPlace} (h : DataW.trod enc Trym.prog W base sp hl fuel 32 [.slice ao n c] = some x) :
    ∃ z : Nat → Int, Is W ao n z ∧ n ≤ 9223372036854775807 := by
  rcases open_slice1 Trym.underlying32 cells3 h with ⟨h0, _⟩ | ⟨a, len, cap, m, k, V, D, Pl, h0, hb, hle, hm, hmm, hx, hel⟩
  · simp at h0
    obtain ⟨rfl, rfl, rfl⟩ := h0
    exact ⟨fun _ => 0, fun h => absurd h (Nat.lt_irrefl _), by omega⟩
  · simp at h0
    obtain ⟨rfl, rfl, rfl⟩ := h0
    have hnm : n ≤ m := by rw [hmm]; split <;> omega
    have each : ∀ i, i < n → ∃ q : Int, W.cell? (a.add i) = some (.int .i64 q) := by
      intro i hi
      obtain ⟨h1, h2⟩ := hel i (by omega)
      obtain ⟨q, e, _⟩ := DataW.trod_int Trym.underlying3 h2
      simp at e
      exact ⟨q, by rw [h1, e]⟩
    obtain ⟨q, hq⟩ := choose_lt each
    refine ⟨q, fun hn => ?_, by unfold maxLen at hm; omega⟩
    obtain ⟨b, off, spot⟩ := a
    have hspot : spot = none := by simpa [Addr.add] using World.cell?_spot (hq 0 hn)
    subst hspot
    refine ⟨b, off, rfl, fun i hi => ?_⟩
    have h1 := hq i hi
    rw [Addr.add_lit] at h1
    exact h1
end Go.Proofs.Qxb6618524aMods
