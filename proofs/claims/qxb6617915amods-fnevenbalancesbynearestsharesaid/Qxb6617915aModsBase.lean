/-
  THE VIEW OF MEMORY that all walks of this seat share: a slice of pairs of slice headers ([][2][]byte as it comes in; []entry as zzEntries makes it: the same cells).
-/
import Derived.Test.Qxb6617915aModsRows
import Derived.WalkKit
import Derived.WalkSpells
import Derived.Deep.QuietTactic
import Derived.BigQuiet
import Derived.Handy
namespace Go.Proofs.Qxb6617915aMods
open Go.RowKit

/-- A slice header. -/
structure Hd where
  a : Option Addr
  n : Nat
  c : Nat
/-- 'ao' leads to n elements of two headers each (nothing is said where n is 0). -/
def Es (w : World) (ao : Option Addr) (n : Nat) (K V : Nat → Hd) : Prop :=
  0 < n → ∃ b off, ao = some ⟨b, off, none⟩ ∧ ∀ i, i < n → w.cell? ⟨b, off + i * 2, none⟩ = some (.slice (K i).a (K i).n (K i).c) ∧ w.cell? ⟨b, off + i * 2 + 1, none⟩ = some (.slice (V i).a (V i).n (V i).c)
/-- The lengths are lengths. -/
def Fit (n : Nat) (K V : Nat → Hd) : Prop := ∀ i, i < n → (K i).n ≤ 9223372036854775807 ∧ (V i).n ≤ 9223372036854775807
/-- What zzEntriesBytes counts of the first k. -/
def tot (K V : Nat → Hd) : Nat → Nat
  | 0 => 0
  | k + 1 => tot K V k + (48 + (K k).n + (V k).n)
theorem ret_int {k : IntKind} {a b : Int} (h : a = b) : Ending.returned (.int k a) = .returned (.int k b) := by rw [h]
end Go.Proofs.Qxb6617915aMods
