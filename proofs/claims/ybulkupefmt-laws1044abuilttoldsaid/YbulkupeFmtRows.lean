/-
  NARROWER THAN 'FOR EVERY INPUT', by the rows' own cells (each row's printed sentence says how): LawS1044ARaw: maps, laid · LawS1044ABuilt: maps, laid.
  DERIVED. THE GIVEN ROWS OF THIS SEAT. 2 by the template 'for every input the law returns true; each argument reads behind the call as it read before'; 0 by the template 'total and deterministic' (their statements: YbulkupeFmtTotals.lean).
  GIVEN WITH THE SEED: the statements are not yours to turn. If you find one false, say at which input.
  Laid BY PROGRAM, IN A SANDBOX (cutbox-rows.mjs): the forced cells as the released guide's own fill.sh prints them over the translation 1288f6083abbcaf4… (all of the seat's roots in one cut). By AI agents, Wed Nov 11 2026. No macro, syntax, notation, axiom, sorry.
-/
import Derived.Test.YbulkupeFmtChecked
import GoSem.Claim
import GoSem.ClaimJoined
import GoSem.ClaimMapViews
import Derived.JoinedTies
import Derived.KernelRfl
namespace Go.Proofs.YbulkupeFmt
/- THE CELL 'sum', in the pinned program and in every row, IS THE sha256 OF THE DUMP (.gsa) THAT YbulkupeFmtProg.lean LOADS. Nothing in Lean hashes anything: it is a label: what it is worth is what the hold of that sum in a sandbox is worth. -/
noncomputable def Ybaf.pinned : Pinned := { name := "ybulkupefmt", sum := "1288f6083abbcaf46153be36680c5bc7d1b249c384bbc2d8f066d7d94787f081", checked := Ybaf.checked }
namespace Rows
def none {H : Type} : Left H := { results := [], args := [] }

/- WHAT THE LISTED PACKAGE-LEVEL VARIABLES READ AS WHEN THE CALL BEGINS. Each datum BY PROGRAM (the guide's laid-datum.mjs) off the statement by which the dump's own 'gosem.cut.vars' lays the variable. In a bare row this is a premise. The card (YbulkupeFmtCards.lean) ties it to the program's text. -/
def laid_example_com_garlicwire_garlicwire_netdb_cryptoTypes {H : Type} : DataW H := .map [(.int .u16 0, .agg [.lit (.int .i64 256), .lit (.bool false)]), (.int .u16 4, .agg [.lit (.int .i64 32), .lit (.bool false)]), (.int .u16 5, .agg [.lit (.int .i64 32), .lit (.bool true)]), (.int .u16 6, .agg [.lit (.int .i64 32), .lit (.bool true)]), (.int .u16 7, .agg [.lit (.int .i64 32), .lit (.bool true)])]

/-- 'netdb.LawS1044ARaw': WHATEVER THE INPUT: true; the input reads as it did. -/
def lawS1044ARawSpec : ChangeSpec := { name := "lawS1044ARaw", vars := ["example.com/garlicwire/garlicwire/netdb.cryptoTypes"], fn := fun _ => fun
  | [d, g1] => { results := [.lit (.bool true)], args := [d], vars := [g1] }
  | _ => none }
def lawS1044ARawRow : OpenClaim := { program := "ybulkupefmt", sum := "1288f6083abbcaf46153be36680c5bc7d1b249c384bbc2d8f066d7d94787f081", func := "example.com/garlicwire/garlicwire/netdb.LawS1044ARaw", spec := "lawS1044ARaw", stops := ["fmt.Sprintf"], inPlace := ["fmt.Sprintf"], named := ["example.com/garlicwire/garlicwire/netdb.cryptoTypes", "encoding/binary.BigEndian"], maps := true, apart := false, laid := [("example.com/garlicwire/garlicwire/netdb.cryptoTypes", laid_example_com_garlicwire_garlicwire_netdb_cryptoTypes)] }
/-- NO THEOREM (fmt's text is open here; it may be false): for the released tool's asking of the row's closed facts alone. THE STATEMENT IS 'LawS1044ARawToldSaid' (YbulkupeFmtCards.lean). -/
def LawS1044ARawFormAsk : Prop := lawS1044ARawRow.holds Ybaf.pinned (OpenSpec.ofChange lawS1044ARawSpec)

/-- ITS FALSE NEIGHBOUR: 'it returns false'. Refute it at one input. -/
def lawS1044ARawWrong : ChangeSpec := { name := "lawS1044ARaw", vars := ["example.com/garlicwire/garlicwire/netdb.cryptoTypes"], fn := fun _ => fun
  | [d, g1] => { results := [.lit (.bool false)], args := [d], vars := [g1] }
  | _ => none }
def LawS1044ARawWrongFormAsk : Prop := lawS1044ARawRow.holds Ybaf.pinned (OpenSpec.ofChange lawS1044ARawWrong)

/-- 'netdb.LawS1044ABuilt': WHATEVER THE INPUT: true; the input reads as it did. -/
def lawS1044ABuiltSpec : ChangeSpec := { name := "lawS1044ABuilt", vars := ["example.com/garlicwire/garlicwire/netdb.cryptoTypes"], fn := fun _ => fun
  | [d1, d2, d3, g1] => { results := [.lit (.bool true)], args := [d1, d2, d3], vars := [g1] }
  | _ => none }
def lawS1044ABuiltRow : OpenClaim := { program := "ybulkupefmt", sum := "1288f6083abbcaf46153be36680c5bc7d1b249c384bbc2d8f066d7d94787f081", func := "example.com/garlicwire/garlicwire/netdb.LawS1044ABuilt", spec := "lawS1044ABuilt", stops := ["fmt.Sprintf"], inPlace := ["fmt.Sprintf"], named := ["example.com/garlicwire/garlicwire/netdb.cryptoTypes", "encoding/binary.BigEndian"], maps := true, apart := false, laid := [("example.com/garlicwire/garlicwire/netdb.cryptoTypes", laid_example_com_garlicwire_garlicwire_netdb_cryptoTypes)] }
/-- NO THEOREM (fmt's text is open here; it may be false): for the released tool's asking of the row's closed facts alone. THE STATEMENT IS 'LawS1044ABuiltToldSaid' (YbulkupeFmtCards.lean). -/
def LawS1044ABuiltFormAsk : Prop := lawS1044ABuiltRow.holds Ybaf.pinned (OpenSpec.ofChange lawS1044ABuiltSpec)

/-- ITS FALSE NEIGHBOUR: 'it returns false'. Refute it at one input. -/
def lawS1044ABuiltWrong : ChangeSpec := { name := "lawS1044ABuilt", vars := ["example.com/garlicwire/garlicwire/netdb.cryptoTypes"], fn := fun _ => fun
  | [d1, d2, d3, g1] => { results := [.lit (.bool false)], args := [d1, d2, d3], vars := [g1] }
  | _ => none }
def LawS1044ABuiltWrongFormAsk : Prop := lawS1044ABuiltRow.holds Ybaf.pinned (OpenSpec.ofChange lawS1044ABuiltWrong)

end Rows
end Go.Proofs.YbulkupeFmt
