/-
  NARROWER THAN 'FOR EVERY INPUT', by the rows' own cells (each row's printed sentence says how): FnFmt0x64Whole: ifaces, laid · FnFmt0x64RoundTrip: ifaces, laid.
  DERIVED. THE GIVEN ROWS OF THIS SEAT. 2 by the template 'for every input the law returns true; each argument reads behind the call as it read before'; 0 by the template 'total and deterministic' (their statements: YoedmwDoorTotals.lean).
  GIVEN WITH THE SEED: the statements are not yours to turn. If you find one false, say at which input.
  Laid BY PROGRAM, IN A SANDBOX (cutbox-rows.mjs): the forced cells as the released guide's own fill.sh prints them over the translation 14d5023f586e0452… (all of the seat's roots in one cut). By AI agents, Wed Nov 11 2026. No macro, syntax, notation, axiom, sorry.
-/
import Derived.Test.YoedmwDoorChecked
import GoSem.Claim
import GoSem.ClaimJoined
import GoSem.ClaimMapViews
import Derived.JoinedTies
import Derived.KernelRfl
namespace Go.Proofs.YoedmwDoor
/- THE CELL 'sum', in the pinned program and in every row, IS THE sha256 OF THE DUMP (.gsa) THAT YoedmwDoorProg.lean LOADS. Nothing in Lean hashes anything: it is a label: what it is worth is what the hold of that sum in a sandbox is worth. -/
noncomputable def Edmg.pinned : Pinned := { name := "yoedmwdoor", sum := "14d5023f586e0452e76c937b7dbadd621f51f83dfdfaa73fec237b14874ebefd", checked := Edmg.checked }
namespace Rows
def none {H : Type} : Left H := { results := [], args := [] }

/- WHAT THE LISTED PACKAGE-LEVEL VARIABLES READ AS WHEN THE CALL BEGINS. Each datum BY PROGRAM (the guide's laid-datum.mjs) off the statement by which the dump's own 'gosem.cut.vars' lays the variable. In a bare row this is a premise. The card (YoedmwDoorCards.lean) ties it to the program's text. -/
def laid_github_com_d5_tengo_v2_ErrStringLimit {H : Type} : DataW H := .iface "*errors.errorString" (.ptr (.agg [.lit (.string [101, 120, 99, 101, 101, 100, 105, 110, 103, 32, 115, 116, 114, 105, 110, 103, 32, 115, 105, 122, 101, 32, 108, 105, 109, 105, 116])]))
def laid_github_com_d5_tengo_v2_MaxStringLen {H : Type} : DataW H := .lit (.int .i64 2147483647)

/-- 'zzlaws_root_b3.FnFmt0x64Whole': WHATEVER THE INPUT: true; the input reads as it did. -/
def fnFmt0x64WholeSpec : ChangeSpec := { name := "fnFmt0x64Whole", vars := ["github.com/d5/tengo/v2.MaxStringLen", "github.com/d5/tengo/v2.ErrStringLimit"], fn := fun _ => fun
  | [d1, d2, d3, d4, d5, d6, d7, g1, g2] => { results := [.lit (.bool true)], args := [d1, d2, d3, d4, d5, d6, d7], vars := [g1, g2] }
  | _ => none }
def fnFmt0x64WholeRow : OpenClaim := { program := "yoedmwdoor", sum := "14d5023f586e0452e76c937b7dbadd621f51f83dfdfaa73fec237b14874ebefd", func := "github.com/d5/tengo/v2/zzlaws_root_b3.FnFmt0x64Whole", spec := "fnFmt0x64Whole", named := ["github.com/d5/tengo/v2.MaxStringLen", "github.com/d5/tengo/v2.ErrStringLimit"], ifaces := true, apart := false, laid := [("github.com/d5/tengo/v2.ErrStringLimit", laid_github_com_d5_tengo_v2_ErrStringLimit), ("github.com/d5/tengo/v2.MaxStringLen", laid_github_com_d5_tengo_v2_MaxStringLen)] }
def FnFmt0x64WholeSaid : Prop := fnFmt0x64WholeRow.holds Edmg.pinned (OpenSpec.ofChange fnFmt0x64WholeSpec)

/-- ITS FALSE NEIGHBOUR: 'it returns false'. Refute it at one input. -/
def fnFmt0x64WholeWrong : ChangeSpec := { name := "fnFmt0x64Whole", vars := ["github.com/d5/tengo/v2.MaxStringLen", "github.com/d5/tengo/v2.ErrStringLimit"], fn := fun _ => fun
  | [d1, d2, d3, d4, d5, d6, d7, g1, g2] => { results := [.lit (.bool false)], args := [d1, d2, d3, d4, d5, d6, d7], vars := [g1, g2] }
  | _ => none }
def FnFmt0x64WholeWrongFalsely : Prop := fnFmt0x64WholeRow.holds Edmg.pinned (OpenSpec.ofChange fnFmt0x64WholeWrong)

/-- 'zzlaws_root_b3.FnFmt0x64RoundTrip': WHATEVER THE INPUT: true; the input reads as it did. -/
def fnFmt0x64RoundTripSpec : ChangeSpec := { name := "fnFmt0x64RoundTrip", vars := ["github.com/d5/tengo/v2.MaxStringLen", "github.com/d5/tengo/v2.ErrStringLimit"], fn := fun _ => fun
  | [d1, d2, g1, g2] => { results := [.lit (.bool true)], args := [d1, d2], vars := [g1, g2] }
  | _ => none }
def fnFmt0x64RoundTripRow : OpenClaim := { program := "yoedmwdoor", sum := "14d5023f586e0452e76c937b7dbadd621f51f83dfdfaa73fec237b14874ebefd", func := "github.com/d5/tengo/v2/zzlaws_root_b3.FnFmt0x64RoundTrip", spec := "fnFmt0x64RoundTrip", named := ["github.com/d5/tengo/v2.MaxStringLen", "github.com/d5/tengo/v2.ErrStringLimit"], ifaces := true, apart := false, laid := [("github.com/d5/tengo/v2.ErrStringLimit", laid_github_com_d5_tengo_v2_ErrStringLimit), ("github.com/d5/tengo/v2.MaxStringLen", laid_github_com_d5_tengo_v2_MaxStringLen)] }
def FnFmt0x64RoundTripSaid : Prop := fnFmt0x64RoundTripRow.holds Edmg.pinned (OpenSpec.ofChange fnFmt0x64RoundTripSpec)

/-- ITS FALSE NEIGHBOUR: 'it returns false'. Refute it at one input. -/
def fnFmt0x64RoundTripWrong : ChangeSpec := { name := "fnFmt0x64RoundTrip", vars := ["github.com/d5/tengo/v2.MaxStringLen", "github.com/d5/tengo/v2.ErrStringLimit"], fn := fun _ => fun
  | [d1, d2, g1, g2] => { results := [.lit (.bool false)], args := [d1, d2], vars := [g1, g2] }
  | _ => none }
def FnFmt0x64RoundTripWrongFalsely : Prop := fnFmt0x64RoundTripRow.holds Edmg.pinned (OpenSpec.ofChange fnFmt0x64RoundTripWrong)

end Rows
end Go.Proofs.YoedmwDoor
