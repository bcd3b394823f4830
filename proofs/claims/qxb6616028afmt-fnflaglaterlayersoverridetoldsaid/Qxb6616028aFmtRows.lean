/-
  No cell of these rows narrows 'for every input' (looked for: loops, veiled, ifaces, maps, wideKeys, modest, calm, conditions, laid).
  DERIVED. THE GIVEN ROWS OF THIS SEAT. 2 by the template 'for every input the law returns true; each argument reads behind the call as it read before'; 0 by the template 'total and deterministic' (their statements: Qxb6616028aFmtTotals.lean).
  GIVEN WITH THE SEED: the statements are not yours to turn. If you find one false, say at which input.
  Laid BY PROGRAM, IN A SANDBOX (cutbox-rows.mjs): the forced cells as the released guide's own fill.sh prints them over the translation c98ad55f3b365bab… (all of the seat's roots in one cut). By AI agents, Wed Nov 11 2026. No macro, syntax, notation, axiom, sorry.
-/
import Derived.Test.Qxb6616028aFmtChecked
import GoSem.Claim
import GoSem.ClaimJoined
import GoSem.ClaimMapViews
import Derived.JoinedTies
import Derived.KernelRfl
namespace Go.Proofs.Qxb6616028aFmt
/- THE CELL 'sum', in the pinned program and in every row, IS THE sha256 OF THE DUMP (.gsa) THAT Qxb6616028aFmtProg.lean LOADS. Nothing in Lean hashes anything: it is a label: what it is worth is what the hold of that sum in a sandbox is worth. -/
noncomputable def Tryf.pinned : Pinned := { name := "qxb6616028afmt", sum := "c98ad55f3b365bab1168bbf1f58e20f4e4efa09f7dd763676403abd8ca7bca1d", checked := Tryf.checked }
namespace Rows
def none {H : Type} : Left H := { results := [], args := [] }

/-- 'zzlaws_values_b1.FnFlagLastBooleanLayerDecides': WHATEVER THE INPUT: true; the input reads as it did. -/
def fnFlagLastBooleanLayerDecidesSpec : ChangeSpec := { name := "fnFlagLastBooleanLayerDecides", fn := fun _ => fun
  | [d1, d2] => { results := [.lit (.bool true)], args := [d1, d2] }
  | _ => none }
def fnFlagLastBooleanLayerDecidesRow : OpenClaim := { program := "qxb6616028afmt", sum := "c98ad55f3b365bab1168bbf1f58e20f4e4efa09f7dd763676403abd8ca7bca1d", func := "example.com/kelson/kelson/zzlaws_values_b1.FnFlagLastBooleanLayerDecides", spec := "fnFlagLastBooleanLayerDecides", stops := ["fmt.errorf", "fmt.Sprintf, its operands' methods called"], inPlace := ["fmt.Sprintf", "fmt.errorf"], unfollowed := true, recurses := true, apart := false }
/-- NO THEOREM (fmt's text is open here; it may be false): for the released tool's asking of the row's closed facts alone. THE STATEMENT IS 'FnFlagLastBooleanLayerDecidesToldSaid' (Qxb6616028aFmtCards.lean). -/
def FnFlagLastBooleanLayerDecidesFormAsk : Prop := fnFlagLastBooleanLayerDecidesRow.holds Tryf.pinned (OpenSpec.ofChange fnFlagLastBooleanLayerDecidesSpec)

/-- ITS FALSE NEIGHBOUR: 'it returns false'. Refute it at one input. -/
def fnFlagLastBooleanLayerDecidesWrong : ChangeSpec := { name := "fnFlagLastBooleanLayerDecides", fn := fun _ => fun
  | [d1, d2] => { results := [.lit (.bool false)], args := [d1, d2] }
  | _ => none }
def FnFlagLastBooleanLayerDecidesWrongFormAsk : Prop := fnFlagLastBooleanLayerDecidesRow.holds Tryf.pinned (OpenSpec.ofChange fnFlagLastBooleanLayerDecidesWrong)

/-- 'zzlaws_values_b1.FnFlagLaterLayersOverride': WHATEVER THE INPUT: true; the input reads as it did. -/
def fnFlagLaterLayersOverrideSpec : ChangeSpec := { name := "fnFlagLaterLayersOverride", fn := fun _ => fun
  | [d1, d2, d3, d4] => { results := [.lit (.bool true)], args := [d1, d2, d3, d4] }
  | _ => none }
def fnFlagLaterLayersOverrideRow : OpenClaim := { program := "qxb6616028afmt", sum := "c98ad55f3b365bab1168bbf1f58e20f4e4efa09f7dd763676403abd8ca7bca1d", func := "example.com/kelson/kelson/zzlaws_values_b1.FnFlagLaterLayersOverride", spec := "fnFlagLaterLayersOverride", stops := ["fmt.errorf", "fmt.Sprintf, its operands' methods called"], inPlace := ["fmt.Sprintf", "fmt.errorf"], unfollowed := true, recurses := true, apart := false }
/-- NO THEOREM (fmt's text is open here; it may be false): for the released tool's asking of the row's closed facts alone. THE STATEMENT IS 'FnFlagLaterLayersOverrideToldSaid' (Qxb6616028aFmtCards.lean). -/
def FnFlagLaterLayersOverrideFormAsk : Prop := fnFlagLaterLayersOverrideRow.holds Tryf.pinned (OpenSpec.ofChange fnFlagLaterLayersOverrideSpec)

/-- ITS FALSE NEIGHBOUR: 'it returns false'. Refute it at one input. -/
def fnFlagLaterLayersOverrideWrong : ChangeSpec := { name := "fnFlagLaterLayersOverride", fn := fun _ => fun
  | [d1, d2, d3, d4] => { results := [.lit (.bool false)], args := [d1, d2, d3, d4] }
  | _ => none }
def FnFlagLaterLayersOverrideWrongFormAsk : Prop := fnFlagLaterLayersOverrideRow.holds Tryf.pinned (OpenSpec.ofChange fnFlagLaterLayersOverrideWrong)

end Rows
end Go.Proofs.Qxb6616028aFmt
