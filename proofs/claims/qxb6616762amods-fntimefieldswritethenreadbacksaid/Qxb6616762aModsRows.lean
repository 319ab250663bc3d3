/-
  No cell of these rows narrows 'for every input' (looked for: loops, veiled, ifaces, maps, wideKeys, modest, calm, conditions, laid).
  DERIVED. THE GIVEN ROWS OF THIS SEAT. 3 by the template 'for every input the law returns true; each argument reads behind the call as it read before'; 0 by the template 'total and deterministic' (their statements: Qxb6616762aModsTotals.lean).
  GIVEN WITH THE SEED: the statements are not yours to turn. If you find one false, say at which input.
  Laid BY PROGRAM, IN A SANDBOX (cutbox-rows.mjs): the forced cells as the released guide's own fill.sh prints them over the translation 59e380ffbff23581… (all of the seat's roots in one cut). By AI agents, Wed Nov 11 2026. No macro, syntax, notation, axiom, sorry.
-/
import Derived.Test.Qxb6616762aModsChecked
import GoSem.Claim
import GoSem.ClaimJoined
import GoSem.ClaimMapViews
import Derived.JoinedTies
import Derived.KernelRfl
namespace Go.Proofs.Qxb6616762aMods
/- THE CELL 'sum', in the pinned program and in every row, IS THE sha256 OF THE DUMP (.gsa) THAT Qxb6616762aModsProg.lean LOADS. Nothing in Lean hashes anything: it is a label: what it is worth is what the hold of that sum in a sandbox is worth. -/
noncomputable def Trym.pinned : Pinned := { name := "qxb6616762amods", sum := "59e380ffbff23581e514784ca8254568af4da74b322f7fb4eac06e67e0d22a4d", checked := Trym.checked }
namespace Rows
def none {H : Type} : Left H := { results := [], args := [] }

/-- 'zzlaws_root_b1.FnTimeFieldsWriteThenReadBack': WHATEVER THE INPUT: true; the input reads as it did. -/
def fnTimeFieldsWriteThenReadBackSpec : ChangeSpec := { name := "fnTimeFieldsWriteThenReadBack", fn := fun _ => fun
  | [d1, d2, d3, d4, d5] => { results := [.lit (.bool true)], args := [d1, d2, d3, d4, d5] }
  | _ => none }
def fnTimeFieldsWriteThenReadBackRow : OpenClaim := { program := "qxb6616762amods", sum := "59e380ffbff23581e514784ca8254568af4da74b322f7fb4eac06e67e0d22a4d", func := "example.com/backlog-to-done/backlog-to-done/zzlaws_root_b1.FnTimeFieldsWriteThenReadBack", spec := "fnTimeFieldsWriteThenReadBack", make := .lifted ["publicsums"], apart := false }
def FnTimeFieldsWriteThenReadBackSaid : Prop := fnTimeFieldsWriteThenReadBackRow.holds Trym.pinned (OpenSpec.ofChange fnTimeFieldsWriteThenReadBackSpec)

/-- ITS FALSE NEIGHBOUR: 'it returns false'. Refute it at one input. -/
def fnTimeFieldsWriteThenReadBackWrong : ChangeSpec := { name := "fnTimeFieldsWriteThenReadBack", fn := fun _ => fun
  | [d1, d2, d3, d4, d5] => { results := [.lit (.bool false)], args := [d1, d2, d3, d4, d5] }
  | _ => none }
def FnTimeFieldsWriteThenReadBackWrongFalsely : Prop := fnTimeFieldsWriteThenReadBackRow.holds Trym.pinned (OpenSpec.ofChange fnTimeFieldsWriteThenReadBackWrong)

/-- 'zzlaws_root_b1.FnGuardReportsReturnAndPanic': WHATEVER THE INPUT: true; the input reads as it did. -/
def fnGuardReportsReturnAndPanicSpec : ChangeSpec := { name := "fnGuardReportsReturnAndPanic", fn := fun _ => fun
  | [d] => { results := [.lit (.bool true)], args := [d] }
  | _ => none }
def fnGuardReportsReturnAndPanicRow : OpenClaim := { program := "qxb6616762amods", sum := "59e380ffbff23581e514784ca8254568af4da74b322f7fb4eac06e67e0d22a4d", func := "example.com/backlog-to-done/backlog-to-done/zzlaws_root_b1.FnGuardReportsReturnAndPanic", spec := "fnGuardReportsReturnAndPanic", inPlace := ["runtime.Stack"], unfollowed := true, recurses := true, make := .lifted ["publicsums"], apart := false }
def FnGuardReportsReturnAndPanicSaid : Prop := fnGuardReportsReturnAndPanicRow.holds Trym.pinned (OpenSpec.ofChange fnGuardReportsReturnAndPanicSpec)

/-- ITS FALSE NEIGHBOUR: 'it returns false'. Refute it at one input. -/
def fnGuardReportsReturnAndPanicWrong : ChangeSpec := { name := "fnGuardReportsReturnAndPanic", fn := fun _ => fun
  | [d] => { results := [.lit (.bool false)], args := [d] }
  | _ => none }
def FnGuardReportsReturnAndPanicWrongFalsely : Prop := fnGuardReportsReturnAndPanicRow.holds Trym.pinned (OpenSpec.ofChange fnGuardReportsReturnAndPanicWrong)

/-- 'zzlaws_root_b1.FnGuardEndedSeesWhatFDid': WHATEVER THE INPUT: true; the input reads as it did. -/
def fnGuardEndedSeesWhatFDidSpec : ChangeSpec := { name := "fnGuardEndedSeesWhatFDid", fn := fun _ => fun
  | [d1, d2] => { results := [.lit (.bool true)], args := [d1, d2] }
  | _ => none }
def fnGuardEndedSeesWhatFDidRow : OpenClaim := { program := "qxb6616762amods", sum := "59e380ffbff23581e514784ca8254568af4da74b322f7fb4eac06e67e0d22a4d", func := "example.com/backlog-to-done/backlog-to-done/zzlaws_root_b1.FnGuardEndedSeesWhatFDid", spec := "fnGuardEndedSeesWhatFDid", inPlace := ["runtime.Stack"], unfollowed := true, recurses := true, make := .lifted ["publicsums"], apart := false }
def FnGuardEndedSeesWhatFDidSaid : Prop := fnGuardEndedSeesWhatFDidRow.holds Trym.pinned (OpenSpec.ofChange fnGuardEndedSeesWhatFDidSpec)

/-- ITS FALSE NEIGHBOUR: 'it returns false'. Refute it at one input. -/
def fnGuardEndedSeesWhatFDidWrong : ChangeSpec := { name := "fnGuardEndedSeesWhatFDid", fn := fun _ => fun
  | [d1, d2] => { results := [.lit (.bool false)], args := [d1, d2] }
  | _ => none }
def FnGuardEndedSeesWhatFDidWrongFalsely : Prop := fnGuardEndedSeesWhatFDidRow.holds Trym.pinned (OpenSpec.ofChange fnGuardEndedSeesWhatFDidWrong)

end Rows
end Go.Proofs.Qxb6616762aMods
