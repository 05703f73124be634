/-
  No cell of these rows narrows 'for every input' (looked for: loops, veiled, ifaces, maps, wideKeys, modest, calm, conditions, laid).
  DERIVED. THE GIVEN ROWS OF THIS SEAT. 2 by the template 'for every input the law returns true; each argument reads behind the call as it read before'; 0 by the template 'total and deterministic' (their statements: YoedmwTotals.lean).
  GIVEN WITH THE SEED: the statements are not yours to turn. If you find one false, say at which input.
  Laid BY PROGRAM, IN A SANDBOX (cutbox-rows.mjs): the forced cells as the released guide's own fill.sh prints them over the translation 373ec996f12aae12… (all of the seat's roots in one cut). By AI agents, Wed Nov 11 2026. No macro, syntax, notation, axiom, sorry.
-/
import Derived.Test.YoedmwChecked
import GoSem.Claim
import GoSem.ClaimJoined
import GoSem.ClaimMapViews
import Derived.JoinedTies
import Derived.KernelRfl
namespace Go.Proofs.Yoedmw
/- THE CELL 'sum', in the pinned program and in every row, IS THE sha256 OF THE DUMP (.gsa) THAT YoedmwProg.lean LOADS. Nothing in Lean hashes anything: it is a label: what it is worth is what the hold of that sum in a sandbox is worth. -/
noncomputable def Edmg.pinned : Pinned := { name := "yoedmw", sum := "373ec996f12aae12129f183dbcce3a1926a3b3c8b87e2adf1928aa88632155a1", checked := Edmg.checked }
namespace Rows
def none {H : Type} : Left H := { results := [], args := [] }

/-- 'zzlaws_root_b3.FnParsenumWholeSpec': WHATEVER THE INPUT: true; the input reads as it did. -/
def fnParsenumWholeSpecSpec : ChangeSpec := { name := "fnParsenumWholeSpec", fn := fun _ => fun
  | [d1, d2, d3] => { results := [.lit (.bool true)], args := [d1, d2, d3] }
  | _ => none }
def fnParsenumWholeSpecRow : OpenClaim := { program := "yoedmw", sum := "373ec996f12aae12129f183dbcce3a1926a3b3c8b87e2adf1928aa88632155a1", func := "github.com/d5/tengo/v2/zzlaws_root_b3.FnParsenumWholeSpec", spec := "fnParsenumWholeSpec", apart := false }
def FnParsenumWholeSpecSaid : Prop := fnParsenumWholeSpecRow.holds Edmg.pinned (OpenSpec.ofChange fnParsenumWholeSpecSpec)

/-- ITS FALSE NEIGHBOUR: 'it returns false'. Refute it at one input. -/
def fnParsenumWholeSpecWrong : ChangeSpec := { name := "fnParsenumWholeSpec", fn := fun _ => fun
  | [d1, d2, d3] => { results := [.lit (.bool false)], args := [d1, d2, d3] }
  | _ => none }
def FnParsenumWholeSpecWrongFalsely : Prop := fnParsenumWholeSpecRow.holds Edmg.pinned (OpenSpec.ofChange fnParsenumWholeSpecWrong)

/-- 'zzlaws_root_b3.FnParsenumRoundTrip': WHATEVER THE INPUT: true; the input reads as it did. -/
def fnParsenumRoundTripSpec : ChangeSpec := { name := "fnParsenumRoundTrip", fn := fun _ => fun
  | [d1, d2, d3] => { results := [.lit (.bool true)], args := [d1, d2, d3] }
  | _ => none }
def fnParsenumRoundTripRow : OpenClaim := { program := "yoedmw", sum := "373ec996f12aae12129f183dbcce3a1926a3b3c8b87e2adf1928aa88632155a1", func := "github.com/d5/tengo/v2/zzlaws_root_b3.FnParsenumRoundTrip", spec := "fnParsenumRoundTrip", apart := false }
def FnParsenumRoundTripSaid : Prop := fnParsenumRoundTripRow.holds Edmg.pinned (OpenSpec.ofChange fnParsenumRoundTripSpec)

/-- ITS FALSE NEIGHBOUR: 'it returns false'. Refute it at one input. -/
def fnParsenumRoundTripWrong : ChangeSpec := { name := "fnParsenumRoundTrip", fn := fun _ => fun
  | [d1, d2, d3] => { results := [.lit (.bool false)], args := [d1, d2, d3] }
  | _ => none }
def FnParsenumRoundTripWrongFalsely : Prop := fnParsenumRoundTripRow.holds Edmg.pinned (OpenSpec.ofChange fnParsenumRoundTripWrong)

end Rows
end Go.Proofs.Yoedmw
