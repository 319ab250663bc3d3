/-
  No cell of these rows narrows 'for every input' (looked for: loops, veiled, ifaces, maps, wideKeys, modest, calm, conditions, laid).
  DERIVED. THE GIVEN ROWS OF THIS SEAT. 2 by the template 'for every input the law returns true; each argument reads behind the call as it read before'; 0 by the template 'total and deterministic' (their statements: Qxb6616411aModsTotals.lean).
  GIVEN WITH THE SEED: the statements are not yours to turn. If you find one false, say at which input.
  Laid BY PROGRAM, IN A SANDBOX (cutbox-rows.mjs): the forced cells as the released guide's own fill.sh prints them over the translation 7a47a909a9c8e22f… (all of the seat's roots in one cut). By AI agents, Wed Nov 11 2026. No macro, syntax, notation, axiom, sorry.
-/
import Derived.Test.Qxb6616411aModsChecked
import GoSem.Claim
import GoSem.ClaimJoined
import GoSem.ClaimMapViews
import Derived.JoinedTies
import Derived.KernelRfl
namespace Go.Proofs.Qxb6616411aMods
/- THE CELL 'sum', in the pinned program and in every row, IS THE sha256 OF THE DUMP (.gsa) THAT Qxb6616411aModsProg.lean LOADS. Nothing in Lean hashes anything: it is a label: what it is worth is what the hold of that sum in a sandbox is worth. -/
noncomputable def Trym.pinned : Pinned := { name := "qxb6616411amods", sum := "7a47a909a9c8e22f84edaacdc7277cc7012bdbce673c5fefda736f899be88b1f", checked := Trym.checked }
namespace Rows
def none {H : Type} : Left H := { results := [], args := [] }

/-- 'zzlaws_internal_store_b1.FnCleanSizeGrowsBySlotSize': WHATEVER THE INPUT: true; the input reads as it did. -/
def fnCleanSizeGrowsBySlotSizeSpec : ChangeSpec := { name := "fnCleanSizeGrowsBySlotSize", fn := fun _ => fun
  | [d1, d2] => { results := [.lit (.bool true)], args := [d1, d2] }
  | _ => none }
def fnCleanSizeGrowsBySlotSizeRow : OpenClaim := { program := "qxb6616411amods", sum := "7a47a909a9c8e22f84edaacdc7277cc7012bdbce673c5fefda736f899be88b1f", func := "example.com/onceward/onceward/zzlaws_internal_store_b1.FnCleanSizeGrowsBySlotSize", spec := "fnCleanSizeGrowsBySlotSize", make := .lifted ["publicsums"], apart := false }
def FnCleanSizeGrowsBySlotSizeSaid : Prop := fnCleanSizeGrowsBySlotSizeRow.holds Trym.pinned (OpenSpec.ofChange fnCleanSizeGrowsBySlotSizeSpec)

/-- ITS FALSE NEIGHBOUR: 'it returns false'. Refute it at one input. -/
def fnCleanSizeGrowsBySlotSizeWrong : ChangeSpec := { name := "fnCleanSizeGrowsBySlotSize", fn := fun _ => fun
  | [d1, d2] => { results := [.lit (.bool false)], args := [d1, d2] }
  | _ => none }
def FnCleanSizeGrowsBySlotSizeWrongFalsely : Prop := fnCleanSizeGrowsBySlotSizeRow.holds Trym.pinned (OpenSpec.ofChange fnCleanSizeGrowsBySlotSizeWrong)

/-- 'zzlaws_internal_store_b1.FnCleanSizeOverheadIsOneHeadCountsAndChecksum': WHATEVER THE INPUT: true; the input reads as it did. -/
def fnCleanSizeOverheadIsOneHeadCountsAndChecksumSpec : ChangeSpec := { name := "fnCleanSizeOverheadIsOneHeadCountsAndChecksum", fn := fun _ => fun
  | [d1, d2] => { results := [.lit (.bool true)], args := [d1, d2] }
  | _ => none }
def fnCleanSizeOverheadIsOneHeadCountsAndChecksumRow : OpenClaim := { program := "qxb6616411amods", sum := "7a47a909a9c8e22f84edaacdc7277cc7012bdbce673c5fefda736f899be88b1f", func := "example.com/onceward/onceward/zzlaws_internal_store_b1.FnCleanSizeOverheadIsOneHeadCountsAndChecksum", spec := "fnCleanSizeOverheadIsOneHeadCountsAndChecksum", make := .lifted ["publicsums"], apart := false }
def FnCleanSizeOverheadIsOneHeadCountsAndChecksumSaid : Prop := fnCleanSizeOverheadIsOneHeadCountsAndChecksumRow.holds Trym.pinned (OpenSpec.ofChange fnCleanSizeOverheadIsOneHeadCountsAndChecksumSpec)

/-- ITS FALSE NEIGHBOUR: 'it returns false'. Refute it at one input. -/
def fnCleanSizeOverheadIsOneHeadCountsAndChecksumWrong : ChangeSpec := { name := "fnCleanSizeOverheadIsOneHeadCountsAndChecksum", fn := fun _ => fun
  | [d1, d2] => { results := [.lit (.bool false)], args := [d1, d2] }
  | _ => none }
def FnCleanSizeOverheadIsOneHeadCountsAndChecksumWrongFalsely : Prop := fnCleanSizeOverheadIsOneHeadCountsAndChecksumRow.holds Trym.pinned (OpenSpec.ofChange fnCleanSizeOverheadIsOneHeadCountsAndChecksumWrong)

end Rows
end Go.Proofs.Qxb6616411aMods
