/-
  NARROWER THAN 'FOR EVERY INPUT', by the rows' own cells (each row's printed sentence says how): FnTokTypeStringTable: laid · FnTokTypeStringInjective: laid.
  DERIVED. THE GIVEN ROWS OF THIS SEAT. 2 by the template 'for every input the law returns true; each argument reads behind the call as it read before'; 0 by the template 'total and deterministic' (their statements: YouaywFmtTotals.lean).
  GIVEN WITH THE SEED: the statements are not yours to turn. If you find one false, say at which input.
  Laid BY PROGRAM, IN A SANDBOX (cutbox-rows.mjs): the forced cells as the released guide's own fill.sh prints them over the translation ce5644d036e1515d… (all of the seat's roots in one cut). By AI agents, Wed Nov 11 2026. No macro, syntax, notation, axiom, sorry.
-/
import Derived.Test.YouaywFmtChecked
import GoSem.Claim
import GoSem.ClaimJoined
import GoSem.ClaimMapViews
import Derived.JoinedTies
import Derived.KernelRfl
namespace Go.Proofs.YouaywFmt
/- THE CELL 'sum', in the pinned program and in every row, IS THE sha256 OF THE DUMP (.gsa) THAT YouaywFmtProg.lean LOADS. Nothing in Lean hashes anything: it is a label: what it is worth is what the hold of that sum in a sandbox is worth. -/
noncomputable def Uayg.pinned : Pinned := { name := "youaywfmt", sum := "ce5644d036e1515d43dfa8b5a3fed3d50d7f204664a56c9aa16ca3633d17dcbc", checked := Uayg.checked }
namespace Rows
def none {H : Type} : Left H := { results := [], args := [] }

/- WHAT THE LISTED PACKAGE-LEVEL VARIABLES READ AS WHEN THE CALL BEGINS. Each datum BY PROGRAM (the guide's laid-datum.mjs) off the statement by which the dump's own 'gosem.cut.vars' lays the variable. In a bare row this is a premise. The card (YouaywFmtCards.lean) ties it to the program's text. -/
def laid_github_com_jmespath_go_jmespath_tokType_index {H : Type} : DataW H := .agg [.lit (.int .u8 0), .lit (.int .u8 8), .lit (.int .u8 13), .lit (.int .u8 17), .lit (.int .u8 24), .lit (.int .u8 32), .lit (.int .u8 39), .lit (.int .u8 46), .lit (.int .u8 55), .lit (.int .u8 64), .lit (.int .u8 71), .lit (.int .u8 78), .lit (.int .u8 81), .lit (.int .u8 86), .lit (.int .u8 93), .lit (.int .u8 112), .lit (.int .u8 129), .lit (.int .u8 135), .lit (.int .u8 141), .lit (.int .u8 144), .lit (.int .u8 148), .lit (.int .u8 151), .lit (.int .u8 155), .lit (.int .u8 158), .lit (.int .u8 161), .lit (.int .u8 173), .lit (.int .u8 187), .lit (.int .u8 195), .lit (.int .u8 202), .lit (.int .u8 206), .lit (.int .u8 210), .lit (.int .u8 214)]

/-- 'zzlaws_root_b21.FnTokTypeStringTable': WHATEVER THE INPUT: true; the input reads as it did. -/
def fnTokTypeStringTableSpec : ChangeSpec := { name := "fnTokTypeStringTable", vars := ["github.com/jmespath/go-jmespath._tokType_index"], fn := fun _ => fun
  | [d, g1] => { results := [.lit (.bool true)], args := [d], vars := [g1] }
  | _ => none }
def fnTokTypeStringTableRow : OpenClaim := { program := "youaywfmt", sum := "ce5644d036e1515d43dfa8b5a3fed3d50d7f204664a56c9aa16ca3633d17dcbc", func := "github.com/jmespath/go-jmespath/zzlaws_root_b21.FnTokTypeStringTable", spec := "fnTokTypeStringTable", stops := ["fmt.Sprintf, its operands' methods called"], inPlace := ["fmt.Sprintf"], unfollowed := true, recurses := true, named := ["github.com/jmespath/go-jmespath._tokType_index"], apart := false, laid := [("github.com/jmespath/go-jmespath._tokType_index", laid_github_com_jmespath_go_jmespath_tokType_index)] }
/-- NO THEOREM (fmt's text is open here; it may be false): for the released tool's asking of the row's closed facts alone. THE STATEMENT IS 'FnTokTypeStringTableToldSaid' (YouaywFmtCards.lean). -/
def FnTokTypeStringTableFormAsk : Prop := fnTokTypeStringTableRow.holds Uayg.pinned (OpenSpec.ofChange fnTokTypeStringTableSpec)

/-- ITS FALSE NEIGHBOUR: 'it returns false'. Refute it at one input. -/
def fnTokTypeStringTableWrong : ChangeSpec := { name := "fnTokTypeStringTable", vars := ["github.com/jmespath/go-jmespath._tokType_index"], fn := fun _ => fun
  | [d, g1] => { results := [.lit (.bool false)], args := [d], vars := [g1] }
  | _ => none }
def FnTokTypeStringTableWrongFormAsk : Prop := fnTokTypeStringTableRow.holds Uayg.pinned (OpenSpec.ofChange fnTokTypeStringTableWrong)

/-- 'zzlaws_root_b21.FnTokTypeStringInjective': WHATEVER THE INPUT: true; the input reads as it did. -/
def fnTokTypeStringInjectiveSpec : ChangeSpec := { name := "fnTokTypeStringInjective", vars := ["github.com/jmespath/go-jmespath._tokType_index"], fn := fun _ => fun
  | [d1, d2, g1] => { results := [.lit (.bool true)], args := [d1, d2], vars := [g1] }
  | _ => none }
def fnTokTypeStringInjectiveRow : OpenClaim := { program := "youaywfmt", sum := "ce5644d036e1515d43dfa8b5a3fed3d50d7f204664a56c9aa16ca3633d17dcbc", func := "github.com/jmespath/go-jmespath/zzlaws_root_b21.FnTokTypeStringInjective", spec := "fnTokTypeStringInjective", stops := ["fmt.Sprintf, its operands' methods called"], inPlace := ["fmt.Sprintf"], unfollowed := true, recurses := true, named := ["github.com/jmespath/go-jmespath._tokType_index"], apart := false, laid := [("github.com/jmespath/go-jmespath._tokType_index", laid_github_com_jmespath_go_jmespath_tokType_index)] }
/-- NO THEOREM (fmt's text is open here; it may be false): for the released tool's asking of the row's closed facts alone. THE STATEMENT IS 'FnTokTypeStringInjectiveToldSaid' (YouaywFmtCards.lean). -/
def FnTokTypeStringInjectiveFormAsk : Prop := fnTokTypeStringInjectiveRow.holds Uayg.pinned (OpenSpec.ofChange fnTokTypeStringInjectiveSpec)

/-- ITS FALSE NEIGHBOUR: 'it returns false'. Refute it at one input. -/
def fnTokTypeStringInjectiveWrong : ChangeSpec := { name := "fnTokTypeStringInjective", vars := ["github.com/jmespath/go-jmespath._tokType_index"], fn := fun _ => fun
  | [d1, d2, g1] => { results := [.lit (.bool false)], args := [d1, d2], vars := [g1] }
  | _ => none }
def FnTokTypeStringInjectiveWrongFormAsk : Prop := fnTokTypeStringInjectiveRow.holds Uayg.pinned (OpenSpec.ofChange fnTokTypeStringInjectiveWrong)

end Rows
end Go.Proofs.YouaywFmt
