/-
  No cell of these rows narrows 'for every input' (looked for: loops, veiled, ifaces, maps, wideKeys, modest, calm, conditions, laid).
  DERIVED. THE GIVEN ROWS OF THIS SEAT. 2 by the template 'for every input the law returns true; each argument reads behind the call as it read before'; 0 by the template 'total and deterministic' (their statements: Qxb6617866aModsTotals.lean).
  GIVEN WITH THE SEED: the statements are not yours to turn. If you find one false, say at which input.
  Laid BY PROGRAM, IN A SANDBOX (cutbox-rows.mjs): the forced cells as the released guide's own fill.sh prints them over the translation 2b43cd1d941c19ba… (all of the seat's roots in one cut). By AI agents, Wed Nov 11 2026. No macro, syntax, notation, axiom, sorry.
-/
import Derived.Test.Qxb6617866aModsChecked
import GoSem.Claim
import GoSem.ClaimJoined
import GoSem.ClaimMapViews
import Derived.JoinedTies
import Derived.KernelRfl
namespace Go.Proofs.Qxb6617866aMods
/- THE CELL 'sum', in the pinned program and in every row, IS THE sha256 OF THE DUMP (.gsa) THAT Qxb6617866aModsProg.lean LOADS. Nothing in Lean hashes anything: it is a label: what it is worth is what the hold of that sum in a sandbox is worth. -/
noncomputable def Trym.pinned : Pinned := { name := "qxb6617866amods", sum := "2b43cd1d941c19ba4015b93ecc158a8c2cb54e82be10b00f52d370dc7519affa", checked := Trym.checked }
namespace Rows
def none {H : Type} : Left H := { results := [], args := [] }

/-- 'zzlaws_internal_safebrowsing_b1.FnRshSlidesOneBit': WHATEVER THE INPUT: true; the input reads as it did. -/
def fnRshSlidesOneBitSpec : ChangeSpec := { name := "fnRshSlidesOneBit", fn := fun _ => fun
  | [d1, d2] => { results := [.lit (.bool true)], args := [d1, d2] }
  | _ => none }
def fnRshSlidesOneBitRow : OpenClaim := { program := "qxb6617866amods", sum := "2b43cd1d941c19ba4015b93ecc158a8c2cb54e82be10b00f52d370dc7519affa", func := "example.com/hashwarden/hashwarden/zzlaws_internal_safebrowsing_b1.FnRshSlidesOneBit", spec := "fnRshSlidesOneBit", make := .lifted ["publicsums"], apart := false }
def FnRshSlidesOneBitSaid : Prop := fnRshSlidesOneBitRow.holds Trym.pinned (OpenSpec.ofChange fnRshSlidesOneBitSpec)

/-- ITS FALSE NEIGHBOUR: 'it returns false'. Refute it at one input. -/
def fnRshSlidesOneBitWrong : ChangeSpec := { name := "fnRshSlidesOneBit", fn := fun _ => fun
  | [d1, d2] => { results := [.lit (.bool false)], args := [d1, d2] }
  | _ => none }
def FnRshSlidesOneBitWrongFalsely : Prop := fnRshSlidesOneBitRow.holds Trym.pinned (OpenSpec.ofChange fnRshSlidesOneBitWrong)

/-- 'zzlaws_internal_safebrowsing_b1.FnRshIsLinear': WHATEVER THE INPUT: true; the input reads as it did. -/
def fnRshIsLinearSpec : ChangeSpec := { name := "fnRshIsLinear", fn := fun _ => fun
  | [d1, d2, d3] => { results := [.lit (.bool true)], args := [d1, d2, d3] }
  | _ => none }
def fnRshIsLinearRow : OpenClaim := { program := "qxb6617866amods", sum := "2b43cd1d941c19ba4015b93ecc158a8c2cb54e82be10b00f52d370dc7519affa", func := "example.com/hashwarden/hashwarden/zzlaws_internal_safebrowsing_b1.FnRshIsLinear", spec := "fnRshIsLinear", make := .lifted ["publicsums"], apart := false }
def FnRshIsLinearSaid : Prop := fnRshIsLinearRow.holds Trym.pinned (OpenSpec.ofChange fnRshIsLinearSpec)

/-- ITS FALSE NEIGHBOUR: 'it returns false'. Refute it at one input. -/
def fnRshIsLinearWrong : ChangeSpec := { name := "fnRshIsLinear", fn := fun _ => fun
  | [d1, d2, d3] => { results := [.lit (.bool false)], args := [d1, d2, d3] }
  | _ => none }
def FnRshIsLinearWrongFalsely : Prop := fnRshIsLinearRow.holds Trym.pinned (OpenSpec.ofChange fnRshIsLinearWrong)

end Rows
end Go.Proofs.Qxb6617866aMods
