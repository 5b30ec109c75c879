/-
  [][2][]byte, as it comes in: its header, and each element's two headers.
-/
import Derived.Test.Qxb6617915aModsBase
import Derived.ProofKit
import Derived.OpenShut
import Derived.ChangeOld
import Derived.Deep.Slices
namespace Go.Proofs.Qxb6617915aMods
open Go.ChangeShapes Go.WideShapes Go.ChangeAt Go.RowKit Go.Deep

theorem own : ownKnob Trym.prog.godebug = none := by kernel_rfl
theorem laidOut : laidOutB Trym.prog = true := by kernel_rfl
theorem cells31 : Trym.prog.cellsOf 31 = 1 := by kernel_rfl
theorem cells32 : Trym.prog.cellsOf 32 = 2 := by kernel_rfl
theorem bounds_of_wf {x : Int} (h : (Lit.int .i64 x).wf = true) : -9223372036854775808 ≤ x ∧ x ≤ 9223372036854775807 := bounds_i64 h

theorem hd_of {H : Type} {enc : TypeId × Value → H} {W : World} {base fuel : Nat} {sp : Nat → Bool} {hl : Bool} {v : Value} {x : DataW H × List MemPlace} (h : DataW.trod enc Trym.prog W base sp hl fuel 31 [v] = some x) :
    ∃ q : Hd, v = .slice q.a q.n q.c ∧ q.n ≤ 9223372036854775807 := by
  rcases DataW.trod_slice Trym.underlying31 h with ⟨h0, _⟩ | ⟨a, len, cap, _, _, _, _, h0, _, _, h1, h2, _⟩
  · simp at h0; exact ⟨⟨none, 0, 0⟩, h0, by simp⟩
  · simp at h0; unfold maxLen at h2; exact ⟨⟨some a, len, cap⟩, h0, by show len ≤ _; omega⟩

theorem open_es {H : Type} {enc : TypeId × Value → H} {W : World} {base fuel : Nat} {sp : Nat → Bool} {hl : Bool} {ao : Option Addr} {n c : Nat} {x : DataW H × List MemPlace} (h : DataW.trod enc Trym.prog W base sp hl fuel 22 [.slice ao n c] = some x) :
    ∃ K V : Nat → Hd, Es W ao n K V ∧ Fit n K V ∧ n ≤ 9223372036854775807 ∧ (ao = none → n = 0 ∧ c = 0) := by
  rcases open_slice Trym.underlying22 h with ⟨h0, _⟩ | ⟨a, len, cap, m, k, D, Pl, h0, hb, hle, hm, hmm, hx, hel⟩
  · simp at h0
    obtain ⟨rfl, rfl, rfl⟩ := h0
    exact ⟨fun _ => ⟨none, 0, 0⟩, fun _ => ⟨none, 0, 0⟩, fun h => absurd h (Nat.lt_irrefl _), fun i hi => absurd hi (Nat.not_lt_zero _), by omega, fun _ => ⟨rfl, rfl⟩⟩
  · simp at h0
    obtain ⟨rfl, rfl, rfl⟩ := h0
    have hnm : n ≤ m := by rw [hmm]; split <;> omega
    have each : ∀ i, i < n → ∃ q : Hd × Hd, W.cell? (a.add (i * 2)) = some (.slice q.1.a q.1.n q.1.c) ∧ W.cell? (a.add (i * 2 + 1)) = some (.slice q.2.a q.2.n q.2.c) ∧ q.1.n ≤ 9223372036854775807 ∧ q.2.n ≤ 9223372036854775807 := by
      intro i hi
      obtain ⟨cs', h1, h2⟩ := hel i (by omega)
      rw [cells32] at h1
      obtain ⟨_, hlen, hcell⟩ := World.cells?_some h1
      obtain ⟨xs, k', hk, hxy, _, hxl, hf⟩ := DataW.trod_array Trym.underlying32 h2
      match xs, hxl, cs', hlen with
      | [y0, y1], _, [v0, v1], _ =>
        have g0 := hf 0 (by omega)
        have g1 := hf 1 (by omega)
        simp [cells31] at g0 g1
        have e0 := hcell 0 (by omega)
        have e1 := hcell 1 (by omega)
        rw [add_add] at e0 e1
        obtain ⟨q0, rfl, b0⟩ := hd_of g0
        obtain ⟨q1, rfl, b1⟩ := hd_of g1
        exact ⟨(q0, q1), by simpa using e0, by simpa using e1, b0, b1⟩
    haveI : Inhabited (Hd × Hd) := ⟨(⟨none, 0, 0⟩, ⟨none, 0, 0⟩)⟩
    obtain ⟨q, hq⟩ := choose_lt each
    refine ⟨fun i => (q i).1, fun i => (q i).2, fun hn => ?_, fun i hi => ⟨(hq i hi).2.2.1, (hq i hi).2.2.2⟩, by unfold maxLen at hm; omega, fun h => by simp at h⟩
    obtain ⟨b, off, spot⟩ := a
    have hspot : spot = none := by simpa [Addr.add] using World.cell?_spot (hq 0 hn).1
    subst hspot
    refine ⟨b, off, rfl, fun i hi => ?_⟩
    obtain ⟨h1, h2, _⟩ := hq i hi
    rw [Addr.add_lit] at h1 h2
    exact ⟨h1, by rw [Nat.add_assoc]; exact h2⟩
/-- .. and its capacity. -/
theorem open_cap {H : Type} {enc : TypeId × Value → H} {W : World} {base fuel : Nat} {sp : Nat → Bool} {hl : Bool} {ao : Option Addr} {n c : Nat} {x : DataW H × List MemPlace} (h : DataW.trod enc Trym.prog W base sp hl fuel 22 [.slice ao n c] = some x) :
    n ≤ c ∧ c ≤ 9223372036854775807 := by
  rcases DataW.trod_slice Trym.underlying22 h with ⟨h0, _⟩ | ⟨a, len, cap, _, _, _, _, h0, _, _, h1, h2, _⟩
  · simp at h0; omega
  · simp at h0; unfold maxLen at h2; omega
end Go.Proofs.Qxb6617915aMods
