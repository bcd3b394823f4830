/-
  NARROWER THAN 'FOR EVERY INPUT', by the rows' own cells (each row's printed sentence says how): FnMergeMatchesKeywiseModel: loops · FnMergeSettlesAndEmptyBaseKeepsOver: loops · FnMapScalarsSwapsEveryLeaf: loops · FnMapScalarsTwiceIsClone: loops.
  DERIVED. THE GIVEN ROWS OF THIS SEAT. 4 by the template 'for every input the law returns true; each argument reads behind the call as it read before'; 0 by the template 'total and deterministic' (their statements: Qxb6616028aTotals.lean).
  GIVEN WITH THE SEED: the statements are not yours to turn. If you find one false, say at which input.
  Laid BY PROGRAM, IN A SANDBOX (cutbox-rows.mjs): the forced cells as the released guide's own fill.sh prints them over the translation 1d74a2a48e7e185c… (all of the seat's roots in one cut). By AI agents, Wed Nov 11 2026. No macro, syntax, notation, axiom, sorry.
-/
import Derived.Test.Qxb6616028aChecked
import GoSem.Claim
import GoSem.ClaimJoined
import GoSem.ClaimMapViews
import Derived.JoinedTies
import Derived.KernelRfl
namespace Go.Proofs.Qxb6616028a
/- THE CELL 'sum', in the pinned program and in every row, IS THE sha256 OF THE DUMP (.gsa) THAT Qxb6616028aProg.lean LOADS. Nothing in Lean hashes anything: it is a label: what it is worth is what the hold of that sum in a sandbox is worth. -/
noncomputable def Try.pinned : Pinned := { name := "qxb6616028a", sum := "1d74a2a48e7e185c4a63154477b8f9bf6631c812405ec3c180954d00d87e0f09", checked := Try.checked }
namespace Rows
def none {H : Type} : Left H := { results := [], args := [] }

/-- 'zzlaws_values_b1.FnMergeMatchesKeywiseModel': WHATEVER THE INPUT: true; the input reads as it did. -/
def fnMergeMatchesKeywiseModelSpec : ChangeSpec := { name := "fnMergeMatchesKeywiseModel", fn := fun _ => fun
  | [d1, d2] => { results := [.lit (.bool true)], args := [d1, d2] }
  | _ => none }
def fnMergeMatchesKeywiseModelRow : OpenClaim := { program := "qxb6616028a", sum := "1d74a2a48e7e185c4a63154477b8f9bf6631c812405ec3c180954d00d87e0f09", func := "example.com/kelson/kelson/zzlaws_values_b1.FnMergeMatchesKeywiseModel", spec := "fnMergeMatchesKeywiseModel", unfollowed := true, recurses := true, loops := true, apart := false }
def FnMergeMatchesKeywiseModelSaid : Prop := fnMergeMatchesKeywiseModelRow.holds Try.pinned (OpenSpec.ofChange fnMergeMatchesKeywiseModelSpec)

/-- ITS FALSE NEIGHBOUR: 'it returns false'. Refute it at one input. -/
def fnMergeMatchesKeywiseModelWrong : ChangeSpec := { name := "fnMergeMatchesKeywiseModel", fn := fun _ => fun
  | [d1, d2] => { results := [.lit (.bool false)], args := [d1, d2] }
  | _ => none }
def FnMergeMatchesKeywiseModelWrongFalsely : Prop := fnMergeMatchesKeywiseModelRow.holds Try.pinned (OpenSpec.ofChange fnMergeMatchesKeywiseModelWrong)

/-- 'zzlaws_values_b1.FnMergeSettlesAndEmptyBaseKeepsOver': WHATEVER THE INPUT: true; the input reads as it did. -/
def fnMergeSettlesAndEmptyBaseKeepsOverSpec : ChangeSpec := { name := "fnMergeSettlesAndEmptyBaseKeepsOver", fn := fun _ => fun
  | [d1, d2] => { results := [.lit (.bool true)], args := [d1, d2] }
  | _ => none }
def fnMergeSettlesAndEmptyBaseKeepsOverRow : OpenClaim := { program := "qxb6616028a", sum := "1d74a2a48e7e185c4a63154477b8f9bf6631c812405ec3c180954d00d87e0f09", func := "example.com/kelson/kelson/zzlaws_values_b1.FnMergeSettlesAndEmptyBaseKeepsOver", spec := "fnMergeSettlesAndEmptyBaseKeepsOver", unfollowed := true, recurses := true, loops := true, apart := false }
def FnMergeSettlesAndEmptyBaseKeepsOverSaid : Prop := fnMergeSettlesAndEmptyBaseKeepsOverRow.holds Try.pinned (OpenSpec.ofChange fnMergeSettlesAndEmptyBaseKeepsOverSpec)

/-- ITS FALSE NEIGHBOUR: 'it returns false'. Refute it at one input. -/
def fnMergeSettlesAndEmptyBaseKeepsOverWrong : ChangeSpec := { name := "fnMergeSettlesAndEmptyBaseKeepsOver", fn := fun _ => fun
  | [d1, d2] => { results := [.lit (.bool false)], args := [d1, d2] }
  | _ => none }
def FnMergeSettlesAndEmptyBaseKeepsOverWrongFalsely : Prop := fnMergeSettlesAndEmptyBaseKeepsOverRow.holds Try.pinned (OpenSpec.ofChange fnMergeSettlesAndEmptyBaseKeepsOverWrong)

/-- 'zzlaws_values_b1.FnMapScalarsSwapsEveryLeaf': WHATEVER THE INPUT: true; the input reads as it did. -/
def fnMapScalarsSwapsEveryLeafSpec : ChangeSpec := { name := "fnMapScalarsSwapsEveryLeaf", fn := fun _ => fun
  | [d] => { results := [.lit (.bool true)], args := [d] }
  | _ => none }
def fnMapScalarsSwapsEveryLeafRow : OpenClaim := { program := "qxb6616028a", sum := "1d74a2a48e7e185c4a63154477b8f9bf6631c812405ec3c180954d00d87e0f09", func := "example.com/kelson/kelson/zzlaws_values_b1.FnMapScalarsSwapsEveryLeaf", spec := "fnMapScalarsSwapsEveryLeaf", unfollowed := true, recurses := true, loops := true, apart := false }
def FnMapScalarsSwapsEveryLeafSaid : Prop := fnMapScalarsSwapsEveryLeafRow.holds Try.pinned (OpenSpec.ofChange fnMapScalarsSwapsEveryLeafSpec)

/-- ITS FALSE NEIGHBOUR: 'it returns false'. Refute it at one input. -/
def fnMapScalarsSwapsEveryLeafWrong : ChangeSpec := { name := "fnMapScalarsSwapsEveryLeaf", fn := fun _ => fun
  | [d] => { results := [.lit (.bool false)], args := [d] }
  | _ => none }
def FnMapScalarsSwapsEveryLeafWrongFalsely : Prop := fnMapScalarsSwapsEveryLeafRow.holds Try.pinned (OpenSpec.ofChange fnMapScalarsSwapsEveryLeafWrong)

/-- 'zzlaws_values_b1.FnMapScalarsTwiceIsClone': WHATEVER THE INPUT: true; the input reads as it did. -/
def fnMapScalarsTwiceIsCloneSpec : ChangeSpec := { name := "fnMapScalarsTwiceIsClone", fn := fun _ => fun
  | [d] => { results := [.lit (.bool true)], args := [d] }
  | _ => none }
def fnMapScalarsTwiceIsCloneRow : OpenClaim := { program := "qxb6616028a", sum := "1d74a2a48e7e185c4a63154477b8f9bf6631c812405ec3c180954d00d87e0f09", func := "example.com/kelson/kelson/zzlaws_values_b1.FnMapScalarsTwiceIsClone", spec := "fnMapScalarsTwiceIsClone", unfollowed := true, recurses := true, loops := true, apart := false }
def FnMapScalarsTwiceIsCloneSaid : Prop := fnMapScalarsTwiceIsCloneRow.holds Try.pinned (OpenSpec.ofChange fnMapScalarsTwiceIsCloneSpec)

/-- ITS FALSE NEIGHBOUR: 'it returns false'. Refute it at one input. -/
def fnMapScalarsTwiceIsCloneWrong : ChangeSpec := { name := "fnMapScalarsTwiceIsClone", fn := fun _ => fun
  | [d] => { results := [.lit (.bool false)], args := [d] }
  | _ => none }
def FnMapScalarsTwiceIsCloneWrongFalsely : Prop := fnMapScalarsTwiceIsCloneRow.holds Try.pinned (OpenSpec.ofChange fnMapScalarsTwiceIsCloneWrong)

end Rows
end Go.Proofs.Qxb6616028a
