/-
  No cell of these rows narrows 'for every input' (looked for: loops, veiled, ifaces, maps, wideKeys, modest, calm, conditions, laid).
  DERIVED. THE GIVEN ROWS OF THIS SEAT. 3 by the template 'for every input the law returns true; each argument reads behind the call as it read before'; 0 by the template 'total and deterministic' (their statements: Qxb6617006aModsTotals.lean).
  GIVEN WITH THE SEED: the statements are not yours to turn. If you find one false, say at which input.
  Laid BY PROGRAM, IN A SANDBOX (cutbox-rows.mjs): the forced cells as the released guide's own fill.sh prints them over the translation 6b0e0a537559c64c… (all of the seat's roots in one cut). By AI agents, Wed Nov 11 2026. No macro, syntax, notation, axiom, sorry.
-/
import Derived.Test.Qxb6617006aModsChecked
import GoSem.Claim
import GoSem.ClaimJoined
import GoSem.ClaimMapViews
import Derived.JoinedTies
import Derived.KernelRfl
namespace Go.Proofs.Qxb6617006aMods
/- THE CELL 'sum', in the pinned program and in every row, IS THE sha256 OF THE DUMP (.gsa) THAT Qxb6617006aModsProg.lean LOADS. Nothing in Lean hashes anything: it is a label: what it is worth is what the hold of that sum in a sandbox is worth. -/
noncomputable def Trym.pinned : Pinned := { name := "qxb6617006amods", sum := "6b0e0a537559c64caf586f3ce1c87933cc076ed9e9e3a5b050cb3a367d705f38", checked := Trym.checked }
namespace Rows
def none {H : Type} : Left H := { results := [], args := [] }

/-- 'zzlaws_root_b1.FnSerialLessShiftInvariant': WHATEVER THE INPUT: true; the input reads as it did. -/
def fnSerialLessShiftInvariantSpec : ChangeSpec := { name := "fnSerialLessShiftInvariant", fn := fun _ => fun
  | [d1, d2, d3] => { results := [.lit (.bool true)], args := [d1, d2, d3] }
  | _ => none }
def fnSerialLessShiftInvariantRow : OpenClaim := { program := "qxb6617006amods", sum := "6b0e0a537559c64caf586f3ce1c87933cc076ed9e9e3a5b050cb3a367d705f38", func := "example.com/sealstream/sealstream/zzlaws_root_b1.FnSerialLessShiftInvariant", spec := "fnSerialLessShiftInvariant", make := .lifted ["publicsums"], apart := false }
def FnSerialLessShiftInvariantSaid : Prop := fnSerialLessShiftInvariantRow.holds Trym.pinned (OpenSpec.ofChange fnSerialLessShiftInvariantSpec)

/-- ITS FALSE NEIGHBOUR: 'it returns false'. Refute it at one input. -/
def fnSerialLessShiftInvariantWrong : ChangeSpec := { name := "fnSerialLessShiftInvariant", fn := fun _ => fun
  | [d1, d2, d3] => { results := [.lit (.bool false)], args := [d1, d2, d3] }
  | _ => none }
def FnSerialLessShiftInvariantWrongFalsely : Prop := fnSerialLessShiftInvariantRow.holds Trym.pinned (OpenSpec.ofChange fnSerialLessShiftInvariantWrong)

/-- 'zzlaws_root_b1.FnSerialLessAntisymmetric': WHATEVER THE INPUT: true; the input reads as it did. -/
def fnSerialLessAntisymmetricSpec : ChangeSpec := { name := "fnSerialLessAntisymmetric", fn := fun _ => fun
  | [d1, d2] => { results := [.lit (.bool true)], args := [d1, d2] }
  | _ => none }
def fnSerialLessAntisymmetricRow : OpenClaim := { program := "qxb6617006amods", sum := "6b0e0a537559c64caf586f3ce1c87933cc076ed9e9e3a5b050cb3a367d705f38", func := "example.com/sealstream/sealstream/zzlaws_root_b1.FnSerialLessAntisymmetric", spec := "fnSerialLessAntisymmetric", make := .lifted ["publicsums"], apart := false }
def FnSerialLessAntisymmetricSaid : Prop := fnSerialLessAntisymmetricRow.holds Trym.pinned (OpenSpec.ofChange fnSerialLessAntisymmetricSpec)

/-- ITS FALSE NEIGHBOUR: 'it returns false'. Refute it at one input. -/
def fnSerialLessAntisymmetricWrong : ChangeSpec := { name := "fnSerialLessAntisymmetric", fn := fun _ => fun
  | [d1, d2] => { results := [.lit (.bool false)], args := [d1, d2] }
  | _ => none }
def FnSerialLessAntisymmetricWrongFalsely : Prop := fnSerialLessAntisymmetricRow.holds Trym.pinned (OpenSpec.ofChange fnSerialLessAntisymmetricWrong)

/-- 'zzlaws_root_b1.FnIsKeyManagementOnlyStreamZero': WHATEVER THE INPUT: true; the input reads as it did. -/
def fnIsKeyManagementOnlyStreamZeroSpec : ChangeSpec := { name := "fnIsKeyManagementOnlyStreamZero", fn := fun _ => fun
  | [d1, d2] => { results := [.lit (.bool true)], args := [d1, d2] }
  | _ => none }
def fnIsKeyManagementOnlyStreamZeroRow : OpenClaim := { program := "qxb6617006amods", sum := "6b0e0a537559c64caf586f3ce1c87933cc076ed9e9e3a5b050cb3a367d705f38", func := "example.com/sealstream/sealstream/zzlaws_root_b1.FnIsKeyManagementOnlyStreamZero", spec := "fnIsKeyManagementOnlyStreamZero", make := .lifted ["publicsums"], apart := false }
def FnIsKeyManagementOnlyStreamZeroSaid : Prop := fnIsKeyManagementOnlyStreamZeroRow.holds Trym.pinned (OpenSpec.ofChange fnIsKeyManagementOnlyStreamZeroSpec)

/-- ITS FALSE NEIGHBOUR: 'it returns false'. Refute it at one input. -/
def fnIsKeyManagementOnlyStreamZeroWrong : ChangeSpec := { name := "fnIsKeyManagementOnlyStreamZero", fn := fun _ => fun
  | [d1, d2] => { results := [.lit (.bool false)], args := [d1, d2] }
  | _ => none }
def FnIsKeyManagementOnlyStreamZeroWrongFalsely : Prop := fnIsKeyManagementOnlyStreamZeroRow.holds Trym.pinned (OpenSpec.ofChange fnIsKeyManagementOnlyStreamZeroWrong)

end Rows
end Go.Proofs.Qxb6617006aMods
