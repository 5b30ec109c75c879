/-
  No cell of these rows narrows 'for every input' (looked for: loops, veiled, ifaces, maps, wideKeys, modest, calm, conditions, laid).
  DERIVED. THE GIVEN ROWS OF THIS SEAT. 4 by the template 'for every input the law returns true; each argument reads behind the call as it read before'; 0 by the template 'total and deterministic' (their statements: Qxb6615493aModsTotals.lean).
  GIVEN WITH THE SEED: the statements are not yours to turn. If you find one false, say at which input.
  Laid BY PROGRAM, IN A SANDBOX (cutbox-rows.mjs): the forced cells as the released guide's own fill.sh prints them over the translation c304f11019010af6… (all of the seat's roots in one cut). By AI agents, Wed Nov 11 2026. No macro, syntax, notation, axiom, sorry.
-/
import Derived.Test.Qxb6615493aModsChecked
import GoSem.Claim
import GoSem.ClaimJoined
import GoSem.ClaimMapViews
import Derived.JoinedTies
import Derived.KernelRfl
namespace Go.Proofs.Qxb6615493aMods
/- THE CELL 'sum', in the pinned program and in every row, IS THE sha256 OF THE DUMP (.gsa) THAT Qxb6615493aModsProg.lean LOADS. Nothing in Lean hashes anything: it is a label: what it is worth is what the hold of that sum in a sandbox is worth. -/
noncomputable def Trym.pinned : Pinned := { name := "qxb6615493amods", sum := "c304f11019010af63c4d79b0c3873e6da04a50437f7d99af6ef94be6782b72b1", checked := Trym.checked }
namespace Rows
def none {H : Type} : Left H := { results := [], args := [] }

/-- 'zzlaws_network_b1.FnQuorumIsTwoThirdsOfCountAndOfPower': WHATEVER THE INPUT: true; the input reads as it did. -/
def fnQuorumIsTwoThirdsOfCountAndOfPowerSpec : ChangeSpec := { name := "fnQuorumIsTwoThirdsOfCountAndOfPower", fn := fun _ => fun
  | [d1, d2, d3, d4] => { results := [.lit (.bool true)], args := [d1, d2, d3, d4] }
  | _ => none }
def fnQuorumIsTwoThirdsOfCountAndOfPowerRow : OpenClaim := { program := "qxb6615493amods", sum := "c304f11019010af63c4d79b0c3873e6da04a50437f7d99af6ef94be6782b72b1", func := "example.com/weftrow/weftrow/zzlaws_network_b1.FnQuorumIsTwoThirdsOfCountAndOfPower", spec := "fnQuorumIsTwoThirdsOfCountAndOfPower", make := .lifted ["publicsums"], apart := false }
def FnQuorumIsTwoThirdsOfCountAndOfPowerSaid : Prop := fnQuorumIsTwoThirdsOfCountAndOfPowerRow.holds Trym.pinned (OpenSpec.ofChange fnQuorumIsTwoThirdsOfCountAndOfPowerSpec)

/-- ITS FALSE NEIGHBOUR: 'it returns false'. Refute it at one input. -/
def fnQuorumIsTwoThirdsOfCountAndOfPowerWrong : ChangeSpec := { name := "fnQuorumIsTwoThirdsOfCountAndOfPower", fn := fun _ => fun
  | [d1, d2, d3, d4] => { results := [.lit (.bool false)], args := [d1, d2, d3, d4] }
  | _ => none }
def FnQuorumIsTwoThirdsOfCountAndOfPowerWrongFalsely : Prop := fnQuorumIsTwoThirdsOfCountAndOfPowerRow.holds Trym.pinned (OpenSpec.ofChange fnQuorumIsTwoThirdsOfCountAndOfPowerWrong)

/-- 'zzlaws_network_b1.FnTallySplitsAtAnyCut': WHATEVER THE INPUT: true; the input reads as it did. -/
def fnTallySplitsAtAnyCutSpec : ChangeSpec := { name := "fnTallySplitsAtAnyCut", fn := fun _ => fun
  | [d1, d2, d3] => { results := [.lit (.bool true)], args := [d1, d2, d3] }
  | _ => none }
def fnTallySplitsAtAnyCutRow : OpenClaim := { program := "qxb6615493amods", sum := "c304f11019010af63c4d79b0c3873e6da04a50437f7d99af6ef94be6782b72b1", func := "example.com/weftrow/weftrow/zzlaws_network_b1.FnTallySplitsAtAnyCut", spec := "fnTallySplitsAtAnyCut", unfollowed := true, recurses := true, make := .lifted ["publicsums"], apart := false }
def FnTallySplitsAtAnyCutSaid : Prop := fnTallySplitsAtAnyCutRow.holds Trym.pinned (OpenSpec.ofChange fnTallySplitsAtAnyCutSpec)

/-- ITS FALSE NEIGHBOUR: 'it returns false'. Refute it at one input. -/
def fnTallySplitsAtAnyCutWrong : ChangeSpec := { name := "fnTallySplitsAtAnyCut", fn := fun _ => fun
  | [d1, d2, d3] => { results := [.lit (.bool false)], args := [d1, d2, d3] }
  | _ => none }
def FnTallySplitsAtAnyCutWrongFalsely : Prop := fnTallySplitsAtAnyCutRow.holds Trym.pinned (OpenSpec.ofChange fnTallySplitsAtAnyCutWrong)

/-- 'zzlaws_network_b1.FnTallyOneMoreSigner': WHATEVER THE INPUT: true; the input reads as it did. -/
def fnTallyOneMoreSignerSpec : ChangeSpec := { name := "fnTallyOneMoreSigner", fn := fun _ => fun
  | [d1, d2, d3] => { results := [.lit (.bool true)], args := [d1, d2, d3] }
  | _ => none }
def fnTallyOneMoreSignerRow : OpenClaim := { program := "qxb6615493amods", sum := "c304f11019010af63c4d79b0c3873e6da04a50437f7d99af6ef94be6782b72b1", func := "example.com/weftrow/weftrow/zzlaws_network_b1.FnTallyOneMoreSigner", spec := "fnTallyOneMoreSigner", unfollowed := true, recurses := true, make := .lifted ["publicsums"], apart := false }
def FnTallyOneMoreSignerSaid : Prop := fnTallyOneMoreSignerRow.holds Trym.pinned (OpenSpec.ofChange fnTallyOneMoreSignerSpec)

/-- ITS FALSE NEIGHBOUR: 'it returns false'. Refute it at one input. -/
def fnTallyOneMoreSignerWrong : ChangeSpec := { name := "fnTallyOneMoreSigner", fn := fun _ => fun
  | [d1, d2, d3] => { results := [.lit (.bool false)], args := [d1, d2, d3] }
  | _ => none }
def FnTallyOneMoreSignerWrongFalsely : Prop := fnTallyOneMoreSignerRow.holds Trym.pinned (OpenSpec.ofChange fnTallyOneMoreSignerWrong)

/-- 'zzlaws_network_b1.FnQuorumsOverlapInAThird': WHATEVER THE INPUT: true; the input reads as it did. -/
def fnQuorumsOverlapInAThirdSpec : ChangeSpec := { name := "fnQuorumsOverlapInAThird", fn := fun _ => fun
  | [d1, d2, d3] => { results := [.lit (.bool true)], args := [d1, d2, d3] }
  | _ => none }
def fnQuorumsOverlapInAThirdRow : OpenClaim := { program := "qxb6615493amods", sum := "c304f11019010af63c4d79b0c3873e6da04a50437f7d99af6ef94be6782b72b1", func := "example.com/weftrow/weftrow/zzlaws_network_b1.FnQuorumsOverlapInAThird", spec := "fnQuorumsOverlapInAThird", unfollowed := true, recurses := true, make := .lifted ["publicsums"], apart := false }
def FnQuorumsOverlapInAThirdSaid : Prop := fnQuorumsOverlapInAThirdRow.holds Trym.pinned (OpenSpec.ofChange fnQuorumsOverlapInAThirdSpec)

/-- ITS FALSE NEIGHBOUR: 'it returns false'. Refute it at one input. -/
def fnQuorumsOverlapInAThirdWrong : ChangeSpec := { name := "fnQuorumsOverlapInAThird", fn := fun _ => fun
  | [d1, d2, d3] => { results := [.lit (.bool false)], args := [d1, d2, d3] }
  | _ => none }
def FnQuorumsOverlapInAThirdWrongFalsely : Prop := fnQuorumsOverlapInAThirdRow.holds Trym.pinned (OpenSpec.ofChange fnQuorumsOverlapInAThirdWrong)

end Rows
end Go.Proofs.Qxb6615493aMods
