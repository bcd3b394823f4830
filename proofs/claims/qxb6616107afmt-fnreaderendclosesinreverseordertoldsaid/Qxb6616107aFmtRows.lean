/-
  NARROWER THAN 'FOR EVERY INPUT', by the rows' own cells (each row's printed sentence says how): FnReaderEndClosesInReverseOrder: ifaces, laid · FnReaderEndRefusesAnUnmatchedTag: ifaces, laid.
  DERIVED. THE GIVEN ROWS OF THIS SEAT. 2 by the template 'for every input the law returns true; each argument reads behind the call as it read before'; 0 by the template 'total and deterministic' (their statements: Qxb6616107aFmtTotals.lean).
  GIVEN WITH THE SEED: the statements are not yours to turn. If you find one false, say at which input.
  Laid BY PROGRAM, IN A SANDBOX (cutbox-rows.mjs): the forced cells as the released guide's own fill.sh prints them over the translation 4d85ccb19831748c… (all of the seat's roots in one cut). By AI agents, Wed Nov 11 2026. No macro, syntax, notation, axiom, sorry.
-/
import Derived.Test.Qxb6616107aFmtChecked
import GoSem.Claim
import GoSem.ClaimJoined
import GoSem.ClaimMapViews
import Derived.JoinedTies
import Derived.KernelRfl
namespace Go.Proofs.Qxb6616107aFmt
/- THE CELL 'sum', in the pinned program and in every row, IS THE sha256 OF THE DUMP (.gsa) THAT Qxb6616107aFmtProg.lean LOADS. Nothing in Lean hashes anything: it is a label: what it is worth is what the hold of that sum in a sandbox is worth. -/
noncomputable def Tryf.pinned : Pinned := { name := "qxb6616107afmt", sum := "4d85ccb19831748c847b0c1fc6b9275e0edec2e19c326168d33a78ab4935d251", checked := Tryf.checked }
namespace Rows
def none {H : Type} : Left H := { results := [], args := [] }

/- WHAT THE LISTED PACKAGE-LEVEL VARIABLES READ AS WHEN THE CALL BEGINS. Each datum BY PROGRAM (the guide's laid-datum.mjs) off the statement by which the dump's own 'gosem.cut.vars' lays the variable. In a bare row this is a premise. The card (Qxb6616107aFmtCards.lean) ties it to the program's text. -/
def laid_example_com_portcullis_portcullis_pkg_simservs_ErrNotWellFormed {H : Type} : DataW H := .iface "*errors.errorString" (.ptr (.agg [.lit (.string [110, 111, 116, 32, 119, 101, 108, 108, 45, 102, 111, 114, 109, 101, 100, 32, 88, 77, 76])]))

/-- 'zzlaws_pkg_simservs_b1.FnReaderEndClosesInReverseOrder': WHATEVER THE INPUT: true; the input reads as it did. -/
def fnReaderEndClosesInReverseOrderSpec : ChangeSpec := { name := "fnReaderEndClosesInReverseOrder", vars := ["example.com/portcullis/portcullis/pkg/simservs.ErrNotWellFormed"], fn := fun _ => fun
  | [d1, d2, d3, d4, d5, d6, g1] => { results := [.lit (.bool true)], args := [d1, d2, d3, d4, d5, d6], vars := [g1] }
  | _ => none }
def fnReaderEndClosesInReverseOrderRow : OpenClaim := { program := "qxb6616107afmt", sum := "4d85ccb19831748c847b0c1fc6b9275e0edec2e19c326168d33a78ab4935d251", func := "example.com/portcullis/portcullis/zzlaws_pkg_simservs_b1.FnReaderEndClosesInReverseOrder", spec := "fnReaderEndClosesInReverseOrder", stops := ["fmt.Sprintf, its operands' methods called", "fmt.errorf"], inPlace := ["fmt.Sprintf", "fmt.errorf"], unfollowed := true, recurses := true, named := ["example.com/portcullis/portcullis/pkg/simservs.ErrNotWellFormed"], ifaces := true, apart := false, laid := [("example.com/portcullis/portcullis/pkg/simservs.ErrNotWellFormed", laid_example_com_portcullis_portcullis_pkg_simservs_ErrNotWellFormed)] }
/-- NO THEOREM (fmt's text is open here; it may be false): for the released tool's asking of the row's closed facts alone. THE STATEMENT IS 'FnReaderEndClosesInReverseOrderToldSaid' (Qxb6616107aFmtCards.lean). -/
def FnReaderEndClosesInReverseOrderFormAsk : Prop := fnReaderEndClosesInReverseOrderRow.holds Tryf.pinned (OpenSpec.ofChange fnReaderEndClosesInReverseOrderSpec)

/-- ITS FALSE NEIGHBOUR: 'it returns false'. Refute it at one input. -/
def fnReaderEndClosesInReverseOrderWrong : ChangeSpec := { name := "fnReaderEndClosesInReverseOrder", vars := ["example.com/portcullis/portcullis/pkg/simservs.ErrNotWellFormed"], fn := fun _ => fun
  | [d1, d2, d3, d4, d5, d6, g1] => { results := [.lit (.bool false)], args := [d1, d2, d3, d4, d5, d6], vars := [g1] }
  | _ => none }
def FnReaderEndClosesInReverseOrderWrongFormAsk : Prop := fnReaderEndClosesInReverseOrderRow.holds Tryf.pinned (OpenSpec.ofChange fnReaderEndClosesInReverseOrderWrong)

/-- 'zzlaws_pkg_simservs_b1.FnReaderEndRefusesAnUnmatchedTag': WHATEVER THE INPUT: true; the input reads as it did. -/
def fnReaderEndRefusesAnUnmatchedTagSpec : ChangeSpec := { name := "fnReaderEndRefusesAnUnmatchedTag", vars := ["example.com/portcullis/portcullis/pkg/simservs.ErrNotWellFormed"], fn := fun _ => fun
  | [d1, d2, d3, d4, d5, d6, d7, d8, g1] => { results := [.lit (.bool true)], args := [d1, d2, d3, d4, d5, d6, d7, d8], vars := [g1] }
  | _ => none }
def fnReaderEndRefusesAnUnmatchedTagRow : OpenClaim := { program := "qxb6616107afmt", sum := "4d85ccb19831748c847b0c1fc6b9275e0edec2e19c326168d33a78ab4935d251", func := "example.com/portcullis/portcullis/zzlaws_pkg_simservs_b1.FnReaderEndRefusesAnUnmatchedTag", spec := "fnReaderEndRefusesAnUnmatchedTag", stops := ["fmt.Sprintf, its operands' methods called", "fmt.errorf"], inPlace := ["fmt.Sprintf", "fmt.errorf"], unfollowed := true, recurses := true, named := ["example.com/portcullis/portcullis/pkg/simservs.ErrNotWellFormed"], ifaces := true, apart := false, laid := [("example.com/portcullis/portcullis/pkg/simservs.ErrNotWellFormed", laid_example_com_portcullis_portcullis_pkg_simservs_ErrNotWellFormed)] }
/-- NO THEOREM (fmt's text is open here; it may be false): for the released tool's asking of the row's closed facts alone. THE STATEMENT IS 'FnReaderEndRefusesAnUnmatchedTagToldSaid' (Qxb6616107aFmtCards.lean). -/
def FnReaderEndRefusesAnUnmatchedTagFormAsk : Prop := fnReaderEndRefusesAnUnmatchedTagRow.holds Tryf.pinned (OpenSpec.ofChange fnReaderEndRefusesAnUnmatchedTagSpec)

/-- ITS FALSE NEIGHBOUR: 'it returns false'. Refute it at one input. -/
def fnReaderEndRefusesAnUnmatchedTagWrong : ChangeSpec := { name := "fnReaderEndRefusesAnUnmatchedTag", vars := ["example.com/portcullis/portcullis/pkg/simservs.ErrNotWellFormed"], fn := fun _ => fun
  | [d1, d2, d3, d4, d5, d6, d7, d8, g1] => { results := [.lit (.bool false)], args := [d1, d2, d3, d4, d5, d6, d7, d8], vars := [g1] }
  | _ => none }
def FnReaderEndRefusesAnUnmatchedTagWrongFormAsk : Prop := fnReaderEndRefusesAnUnmatchedTagRow.holds Tryf.pinned (OpenSpec.ofChange fnReaderEndRefusesAnUnmatchedTagWrong)

end Rows
end Go.Proofs.Qxb6616107aFmt
