/-
  NARROWER THAN 'FOR EVERY INPUT', by the rows' own cells (each row's printed sentence says how): FnClassStringTellsClassesApart: laid.
  DERIVED. THE GIVEN ROWS OF THIS SEAT. 1 by the template 'for every input the law returns true; each argument reads behind the call as it read before'; 0 by the template 'total and deterministic' (their statements: Qxb6612447aFmtTotals.lean).
  GIVEN WITH THE SEED: the statements are not yours to turn. If you find one false, say at which input.
  Laid BY PROGRAM, IN A SANDBOX (cutbox-rows.mjs): the forced cells as the released guide's own fill.sh prints them over the translation 17f5840f14466ec2… (all of the seat's roots in one cut). By AI agents, Wed Nov 11 2026. No macro, syntax, notation, axiom, sorry.
-/
import Derived.Test.Qxb6612447aFmtChecked
import GoSem.Claim
import GoSem.ClaimJoined
import GoSem.ClaimMapViews
import Derived.JoinedTies
import Derived.KernelRfl
namespace Go.Proofs.Qxb6612447aFmt
/- THE CELL 'sum', in the pinned program and in every row, IS THE sha256 OF THE DUMP (.gsa) THAT Qxb6612447aFmtProg.lean LOADS. Nothing in Lean hashes anything: it is a label: what it is worth is what the hold of that sum in a sandbox is worth. -/
noncomputable def Tryf.pinned : Pinned := { name := "qxb6612447afmt", sum := "17f5840f14466ec2fa84cb3db4074c0a77d0b68ae0f9888d99a65992bea251df", checked := Tryf.checked }
namespace Rows
def none {H : Type} : Left H := { results := [], args := [] }

/- WHAT THE LISTED PACKAGE-LEVEL VARIABLES READ AS WHEN THE CALL BEGINS. Each datum BY PROGRAM (the guide's laid-datum.mjs) off the statement by which the dump's own 'gosem.cut.vars' lays the variable. In a bare row this is a premise. The card (Qxb6612447aFmtCards.lean) ties it to the program's text. -/
def laid_example_com_isograph_isograph_classNames {H : Type} : DataW H := .agg [.lit (.string []), .lit (.string [71, 48]), .lit (.string [71, 49, 97]), .lit (.string [71, 49, 98]), .lit (.string [71, 49, 99]), .lit (.string [71, 45, 115, 105, 110, 103, 108, 101]), .lit (.string [71, 50, 45, 105, 116, 101, 109]), .lit (.string [105, 110, 116, 101, 114, 110, 97, 108]), .lit (.string [100, 117, 112, 108, 105, 99, 97, 116, 101]), .lit (.string [103, 97, 114, 98, 97, 103, 101]), .lit (.string [105, 110, 99, 111, 109, 112, 97, 116, 105, 98, 108, 101, 45, 111, 114, 100, 101, 114]), .lit (.string [108, 111, 115, 116, 45, 117, 112, 100, 97, 116, 101])]

/-- 'zzlaws_root_b1.FnClassStringTellsClassesApart': WHATEVER THE INPUT: true; the input reads as it did. -/
def fnClassStringTellsClassesApartSpec : ChangeSpec := { name := "fnClassStringTellsClassesApart", vars := ["example.com/isograph/isograph.classNames"], fn := fun _ => fun
  | [d1, d2, g1] => { results := [.lit (.bool true)], args := [d1, d2], vars := [g1] }
  | _ => none }
def fnClassStringTellsClassesApartRow : OpenClaim := { program := "qxb6612447afmt", sum := "17f5840f14466ec2fa84cb3db4074c0a77d0b68ae0f9888d99a65992bea251df", func := "example.com/isograph/isograph/zzlaws_root_b1.FnClassStringTellsClassesApart", spec := "fnClassStringTellsClassesApart", stops := ["fmt.Sprintf, its operands' methods called"], inPlace := ["fmt.Sprintf"], unfollowed := true, recurses := true, named := ["example.com/isograph/isograph.classNames"], apart := false, laid := [("example.com/isograph/isograph.classNames", laid_example_com_isograph_isograph_classNames)] }
/-- NO THEOREM (fmt's text is open here; it may be false): for the released tool's asking of the row's closed facts alone. THE STATEMENT IS 'FnClassStringTellsClassesApartToldSaid' (Qxb6612447aFmtCards.lean). -/
def FnClassStringTellsClassesApartFormAsk : Prop := fnClassStringTellsClassesApartRow.holds Tryf.pinned (OpenSpec.ofChange fnClassStringTellsClassesApartSpec)

/-- ITS FALSE NEIGHBOUR: 'it returns false'. Refute it at one input. -/
def fnClassStringTellsClassesApartWrong : ChangeSpec := { name := "fnClassStringTellsClassesApart", vars := ["example.com/isograph/isograph.classNames"], fn := fun _ => fun
  | [d1, d2, g1] => { results := [.lit (.bool false)], args := [d1, d2], vars := [g1] }
  | _ => none }
def FnClassStringTellsClassesApartWrongFormAsk : Prop := fnClassStringTellsClassesApartRow.holds Tryf.pinned (OpenSpec.ofChange fnClassStringTellsClassesApartWrong)

end Rows
end Go.Proofs.Qxb6612447aFmt
