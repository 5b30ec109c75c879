/-
  No cell of these rows narrows 'for every input' (looked for: loops, veiled, ifaces, maps, wideKeys, modest, calm, conditions, laid).
  DERIVED. THE GIVEN ROWS OF THIS SEAT. 2 by the template 'for every input the law returns true; each argument reads behind the call as it read before'; 0 by the template 'total and deterministic' (their statements: Qxb6618524aModsTotals.lean).
  GIVEN WITH THE SEED: the statements are not yours to turn. If you find one false, say at which input.
  Laid BY PROGRAM, IN A SANDBOX (cutbox-rows.mjs): the forced cells as the released guide's own fill.sh prints them over the translation 8c34023b95a9b552… (all of the seat's roots in one cut). By AI agents, Wed Nov 11 2026. No macro, syntax, notation, axiom, sorry.
-/
import Derived.Test.Qxb6618524aModsChecked
import GoSem.Claim
import GoSem.ClaimJoined
import GoSem.ClaimMapViews
import Derived.JoinedTies
import Derived.KernelRfl
namespace Go.Proofs.Qxb6618524aMods
/- THE CELL 'sum', in the pinned program and in every row, IS THE sha256 OF THE DUMP (.gsa) THAT Qxb6618524aModsProg.lean LOADS. Nothing in Lean hashes anything: it is a label: what it is worth is what the hold of that sum in a sandbox is worth. -/
noncomputable def Trym.pinned : Pinned := { name := "qxb6618524amods", sum := "8c34023b95a9b5528f45405034a5729e646df9efcfa73332e8c41f1fbc631e6b", checked := Trym.checked }
namespace Rows
def none {H : Type} : Left H := { results := [], args := [] }

/-- 'zzlaws_internal_engine_b1.FnScheduleStartsCommute': WHATEVER THE INPUT: true; the input reads as it did. -/
def fnScheduleStartsCommuteSpec : ChangeSpec := { name := "fnScheduleStartsCommute", fn := fun _ => fun
  | [d1, d2, d3, d4, d5] => { results := [.lit (.bool true)], args := [d1, d2, d3, d4, d5] }
  | _ => none }
def fnScheduleStartsCommuteRow : OpenClaim := { program := "qxb6618524amods", sum := "8c34023b95a9b5528f45405034a5729e646df9efcfa73332e8c41f1fbc631e6b", func := "example.com/ferryline/ferryline/zzlaws_internal_engine_b1.FnScheduleStartsCommute", spec := "fnScheduleStartsCommute", make := .lifted ["publicsums"], apart := false }
def FnScheduleStartsCommuteSaid : Prop := fnScheduleStartsCommuteRow.holds Trym.pinned (OpenSpec.ofChange fnScheduleStartsCommuteSpec)

/-- ITS FALSE NEIGHBOUR: 'it returns false'. Refute it at one input. -/
def fnScheduleStartsCommuteWrong : ChangeSpec := { name := "fnScheduleStartsCommute", fn := fun _ => fun
  | [d1, d2, d3, d4, d5] => { results := [.lit (.bool false)], args := [d1, d2, d3, d4, d5] }
  | _ => none }
def FnScheduleStartsCommuteWrongFalsely : Prop := fnScheduleStartsCommuteRow.holds Trym.pinned (OpenSpec.ofChange fnScheduleStartsCommuteWrong)

/-- 'zzlaws_internal_engine_b1.FnScheduleStartingEveryFreeStepReachesTheEnd': WHATEVER THE INPUT: true; the input reads as it did. -/
def fnScheduleStartingEveryFreeStepReachesTheEndSpec : ChangeSpec := { name := "fnScheduleStartingEveryFreeStepReachesTheEnd", fn := fun _ => fun
  | [d1, d2, d3, d4] => { results := [.lit (.bool true)], args := [d1, d2, d3, d4] }
  | _ => none }
def fnScheduleStartingEveryFreeStepReachesTheEndRow : OpenClaim := { program := "qxb6618524amods", sum := "8c34023b95a9b5528f45405034a5729e646df9efcfa73332e8c41f1fbc631e6b", func := "example.com/ferryline/ferryline/zzlaws_internal_engine_b1.FnScheduleStartingEveryFreeStepReachesTheEnd", spec := "fnScheduleStartingEveryFreeStepReachesTheEnd", make := .lifted ["publicsums"], apart := false }
def FnScheduleStartingEveryFreeStepReachesTheEndSaid : Prop := fnScheduleStartingEveryFreeStepReachesTheEndRow.holds Trym.pinned (OpenSpec.ofChange fnScheduleStartingEveryFreeStepReachesTheEndSpec)

/-- ITS FALSE NEIGHBOUR: 'it returns false'. Refute it at one input. -/
def fnScheduleStartingEveryFreeStepReachesTheEndWrong : ChangeSpec := { name := "fnScheduleStartingEveryFreeStepReachesTheEnd", fn := fun _ => fun
  | [d1, d2, d3, d4] => { results := [.lit (.bool false)], args := [d1, d2, d3, d4] }
  | _ => none }
def FnScheduleStartingEveryFreeStepReachesTheEndWrongFalsely : Prop := fnScheduleStartingEveryFreeStepReachesTheEndRow.holds Trym.pinned (OpenSpec.ofChange fnScheduleStartingEveryFreeStepReachesTheEndWrong)

end Rows
end Go.Proofs.Qxb6618524aMods
