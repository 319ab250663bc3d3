/-
  No cell of these rows narrows 'for every input' (looked for: loops, veiled, ifaces, maps, wideKeys, modest, calm, conditions, laid).
  DERIVED. THE GIVEN ROWS OF THIS SEAT. 1 by the template 'for every input the law returns true; each argument reads behind the call as it read before'; 0 by the template 'total and deterministic' (their statements: Qxb6616167aModsTotals.lean).
  GIVEN WITH THE SEED: the statements are not yours to turn. If you find one false, say at which input.
  Laid BY PROGRAM, IN A SANDBOX (cutbox-rows.mjs): the forced cells as the released guide's own fill.sh prints them over the translation 18fe5cf784a3843a… (all of the seat's roots in one cut). By AI agents, Wed Nov 11 2026. No macro, syntax, notation, axiom, sorry.
-/
import Derived.Test.Qxb6616167aModsChecked
import GoSem.Claim
import GoSem.ClaimJoined
import GoSem.ClaimMapViews
import Derived.JoinedTies
import Derived.KernelRfl
namespace Go.Proofs.Qxb6616167aMods
/- THE CELL 'sum', in the pinned program and in every row, IS THE sha256 OF THE DUMP (.gsa) THAT Qxb6616167aModsProg.lean LOADS. Nothing in Lean hashes anything: it is a label: what it is worth is what the hold of that sum in a sandbox is worth. -/
noncomputable def Trym.pinned : Pinned := { name := "qxb6616167amods", sum := "18fe5cf784a3843a5e3391f71b6b0cd19ab92ab9a14feb633370d7f1da496b6f", checked := Trym.checked }
namespace Rows
def none {H : Type} : Left H := { results := [], args := [] }

/-- 'zzlaws_pkg_controller_b1.FnMadeByOverAllFlagSettings': WHATEVER THE INPUT: true; the input reads as it did. -/
def fnMadeByOverAllFlagSettingsSpec : ChangeSpec := { name := "fnMadeByOverAllFlagSettings", fn := fun _ => fun
  | [d1, d2, d3, d4] => { results := [.lit (.bool true)], args := [d1, d2, d3, d4] }
  | _ => none }
def fnMadeByOverAllFlagSettingsRow : OpenClaim := { program := "qxb6616167amods", sum := "18fe5cf784a3843a5e3391f71b6b0cd19ab92ab9a14feb633370d7f1da496b6f", func := "example.com/fenceline/fenceline/zzlaws_pkg_controller_b1.FnMadeByOverAllFlagSettings", spec := "fnMadeByOverAllFlagSettings", make := .lifted ["publicsums"], apart := false }
def FnMadeByOverAllFlagSettingsSaid : Prop := fnMadeByOverAllFlagSettingsRow.holds Trym.pinned (OpenSpec.ofChange fnMadeByOverAllFlagSettingsSpec)

/-- ITS FALSE NEIGHBOUR: 'it returns false'. Refute it at one input. -/
def fnMadeByOverAllFlagSettingsWrong : ChangeSpec := { name := "fnMadeByOverAllFlagSettings", fn := fun _ => fun
  | [d1, d2, d3, d4] => { results := [.lit (.bool false)], args := [d1, d2, d3, d4] }
  | _ => none }
def FnMadeByOverAllFlagSettingsWrongFalsely : Prop := fnMadeByOverAllFlagSettingsRow.holds Trym.pinned (OpenSpec.ofChange fnMadeByOverAllFlagSettingsWrong)

end Rows
end Go.Proofs.Qxb6616167aMods
