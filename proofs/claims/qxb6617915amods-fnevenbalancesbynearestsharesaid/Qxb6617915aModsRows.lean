/-
  No cell of these rows narrows 'for every input' (looked for: loops, veiled, ifaces, maps, wideKeys, modest, calm, conditions, laid).
  DERIVED. THE GIVEN ROWS OF THIS SEAT. 3 by the template 'for every input the law returns true; each argument reads behind the call as it read before'; 0 by the template 'total and deterministic' (their statements: Qxb6617915aModsTotals.lean).
  GIVEN WITH THE SEED: the statements are not yours to turn. If you find one false, say at which input.
  Laid BY PROGRAM, IN A SANDBOX (cutbox-rows.mjs): the forced cells as the released guide's own fill.sh prints them over the translation be045f71f3b82973… (all of the seat's roots in one cut). By AI agents, Wed Nov 11 2026. No macro, syntax, notation, axiom, sorry.
-/
import Derived.Test.Qxb6617915aModsChecked
import GoSem.Claim
import GoSem.ClaimJoined
import GoSem.ClaimMapViews
import Derived.JoinedTies
import Derived.KernelRfl
namespace Go.Proofs.Qxb6617915aMods
/- THE CELL 'sum', in the pinned program and in every row, IS THE sha256 OF THE DUMP (.gsa) THAT Qxb6617915aModsProg.lean LOADS. Nothing in Lean hashes anything: it is a label: what it is worth is what the hold of that sum in a sandbox is worth. -/
noncomputable def Trym.pinned : Pinned := { name := "qxb6617915amods", sum := "be045f71f3b829737f9d8ee76bbb7bd72f6c8bd69054255f5e9f3d0bc61756f0", checked := Trym.checked }
namespace Rows
def none {H : Type} : Left H := { results := [], args := [] }

/-- 'zzlaws_store_b1.FnEvenBalancesByNearestShare': WHATEVER THE INPUT: true; the input reads as it did. -/
def fnEvenBalancesByNearestShareSpec : ChangeSpec := { name := "fnEvenBalancesByNearestShare", fn := fun _ => fun
  | [d1, d2, d3] => { results := [.lit (.bool true)], args := [d1, d2, d3] }
  | _ => none }
def fnEvenBalancesByNearestShareRow : OpenClaim := { program := "qxb6617915amods", sum := "be045f71f3b829737f9d8ee76bbb7bd72f6c8bd69054255f5e9f3d0bc61756f0", func := "example.com/credence/credence/zzlaws_store_b1.FnEvenBalancesByNearestShare", spec := "fnEvenBalancesByNearestShare", make := .lifted ["publicsums"], apart := false }
def FnEvenBalancesByNearestShareSaid : Prop := fnEvenBalancesByNearestShareRow.holds Trym.pinned (OpenSpec.ofChange fnEvenBalancesByNearestShareSpec)

/-- ITS FALSE NEIGHBOUR: 'it returns false'. Refute it at one input. -/
def fnEvenBalancesByNearestShareWrong : ChangeSpec := { name := "fnEvenBalancesByNearestShare", fn := fun _ => fun
  | [d1, d2, d3] => { results := [.lit (.bool false)], args := [d1, d2, d3] }
  | _ => none }
def FnEvenBalancesByNearestShareWrongFalsely : Prop := fnEvenBalancesByNearestShareRow.holds Trym.pinned (OpenSpec.ofChange fnEvenBalancesByNearestShareWrong)

/-- 'zzlaws_store_b1.FnPackIsGreedyByFits': WHATEVER THE INPUT: true; the input reads as it did. -/
def fnPackIsGreedyByFitsSpec : ChangeSpec := { name := "fnPackIsGreedyByFits", fn := fun _ => fun
  | [d1, d2] => { results := [.lit (.bool true)], args := [d1, d2] }
  | _ => none }
def fnPackIsGreedyByFitsRow : OpenClaim := { program := "qxb6617915amods", sum := "be045f71f3b829737f9d8ee76bbb7bd72f6c8bd69054255f5e9f3d0bc61756f0", func := "example.com/credence/credence/zzlaws_store_b1.FnPackIsGreedyByFits", spec := "fnPackIsGreedyByFits", make := .lifted ["publicsums"], apart := false }
def FnPackIsGreedyByFitsSaid : Prop := fnPackIsGreedyByFitsRow.holds Trym.pinned (OpenSpec.ofChange fnPackIsGreedyByFitsSpec)

/-- ITS FALSE NEIGHBOUR: 'it returns false'. Refute it at one input. -/
def fnPackIsGreedyByFitsWrong : ChangeSpec := { name := "fnPackIsGreedyByFits", fn := fun _ => fun
  | [d1, d2] => { results := [.lit (.bool false)], args := [d1, d2] }
  | _ => none }
def FnPackIsGreedyByFitsWrongFalsely : Prop := fnPackIsGreedyByFitsRow.holds Trym.pinned (OpenSpec.ofChange fnPackIsGreedyByFitsWrong)

/-- 'zzlaws_store_b1.FnPackNeedsNoMorePagesWhenPagesGrow': WHATEVER THE INPUT: true; the input reads as it did. -/
def fnPackNeedsNoMorePagesWhenPagesGrowSpec : ChangeSpec := { name := "fnPackNeedsNoMorePagesWhenPagesGrow", fn := fun _ => fun
  | [d1, d2, d3] => { results := [.lit (.bool true)], args := [d1, d2, d3] }
  | _ => none }
def fnPackNeedsNoMorePagesWhenPagesGrowRow : OpenClaim := { program := "qxb6617915amods", sum := "be045f71f3b829737f9d8ee76bbb7bd72f6c8bd69054255f5e9f3d0bc61756f0", func := "example.com/credence/credence/zzlaws_store_b1.FnPackNeedsNoMorePagesWhenPagesGrow", spec := "fnPackNeedsNoMorePagesWhenPagesGrow", make := .lifted ["publicsums"], apart := false }
def FnPackNeedsNoMorePagesWhenPagesGrowSaid : Prop := fnPackNeedsNoMorePagesWhenPagesGrowRow.holds Trym.pinned (OpenSpec.ofChange fnPackNeedsNoMorePagesWhenPagesGrowSpec)

/-- ITS FALSE NEIGHBOUR: 'it returns false'. Refute it at one input. -/
def fnPackNeedsNoMorePagesWhenPagesGrowWrong : ChangeSpec := { name := "fnPackNeedsNoMorePagesWhenPagesGrow", fn := fun _ => fun
  | [d1, d2, d3] => { results := [.lit (.bool false)], args := [d1, d2, d3] }
  | _ => none }
def FnPackNeedsNoMorePagesWhenPagesGrowWrongFalsely : Prop := fnPackNeedsNoMorePagesWhenPagesGrowRow.holds Trym.pinned (OpenSpec.ofChange fnPackNeedsNoMorePagesWhenPagesGrowWrong)

end Rows
end Go.Proofs.Qxb6617915aMods
