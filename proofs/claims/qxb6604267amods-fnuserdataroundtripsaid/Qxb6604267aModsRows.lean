/-
  No cell of these rows narrows 'for every input' (looked for: loops, veiled, ifaces, maps, wideKeys, modest, calm, conditions, laid).
  DERIVED. THE GIVEN ROWS OF THIS SEAT. 6 by the template 'for every input the law returns true; each argument reads behind the call as it read before'; 0 by the template 'total and deterministic' (their statements: Qxb6604267aModsTotals.lean).
  GIVEN WITH THE SEED: the statements are not yours to turn. If you find one false, say at which input.
  Laid BY PROGRAM, IN A SANDBOX (cutbox-rows.mjs): the forced cells as the released guide's own fill.sh prints them over the translation 0a081ada02a257fd… (all of the seat's roots in one cut). By AI agents, Wed Nov 11 2026. No macro, syntax, notation, axiom, sorry.
-/
import Derived.Test.Qxb6604267aModsChecked
import GoSem.Claim
import GoSem.ClaimJoined
import GoSem.ClaimMapViews
import Derived.JoinedTies
import Derived.KernelRfl
namespace Go.Proofs.Qxb6604267aMods
/- THE CELL 'sum', in the pinned program and in every row, IS THE sha256 OF THE DUMP (.gsa) THAT Qxb6604267aModsProg.lean LOADS. Nothing in Lean hashes anything: it is a label: what it is worth is what the hold of that sum in a sandbox is worth. -/
noncomputable def Trym.pinned : Pinned := { name := "qxb6604267amods", sum := "0a081ada02a257fd6cab44249ec79a29a413990cd74f3182ccd387941890135c", checked := Trym.checked }
namespace Rows
def none {H : Type} : Left H := { results := [], args := [] }

/-- 'zzlaws_pkg_fleet_b1.FnMatchAgreesWithTable': WHATEVER THE INPUT: true; the input reads as it did. -/
def fnMatchAgreesWithTableSpec : ChangeSpec := { name := "fnMatchAgreesWithTable", fn := fun _ => fun
  | [d1, d2] => { results := [.lit (.bool true)], args := [d1, d2] }
  | _ => none }
def fnMatchAgreesWithTableRow : OpenClaim := { program := "qxb6604267amods", sum := "0a081ada02a257fd6cab44249ec79a29a413990cd74f3182ccd387941890135c", func := "example.com/idlewild/idlewild/zzlaws_pkg_fleet_b1.FnMatchAgreesWithTable", spec := "fnMatchAgreesWithTable", make := .lifted ["publicsums"], apart := false }
def FnMatchAgreesWithTableSaid : Prop := fnMatchAgreesWithTableRow.holds Trym.pinned (OpenSpec.ofChange fnMatchAgreesWithTableSpec)

/-- ITS FALSE NEIGHBOUR: 'it returns false'. Refute it at one input. -/
def fnMatchAgreesWithTableWrong : ChangeSpec := { name := "fnMatchAgreesWithTable", fn := fun _ => fun
  | [d1, d2] => { results := [.lit (.bool false)], args := [d1, d2] }
  | _ => none }
def FnMatchAgreesWithTableWrongFalsely : Prop := fnMatchAgreesWithTableRow.holds Trym.pinned (OpenSpec.ofChange fnMatchAgreesWithTableWrong)

/-- 'zzlaws_pkg_fleet_b1.FnMatchSelfAndLength': WHATEVER THE INPUT: true; the input reads as it did. -/
def fnMatchSelfAndLengthSpec : ChangeSpec := { name := "fnMatchSelfAndLength", fn := fun _ => fun
  | [d1, d2] => { results := [.lit (.bool true)], args := [d1, d2] }
  | _ => none }
def fnMatchSelfAndLengthRow : OpenClaim := { program := "qxb6604267amods", sum := "0a081ada02a257fd6cab44249ec79a29a413990cd74f3182ccd387941890135c", func := "example.com/idlewild/idlewild/zzlaws_pkg_fleet_b1.FnMatchSelfAndLength", spec := "fnMatchSelfAndLength", make := .lifted ["publicsums"], apart := false }
def FnMatchSelfAndLengthSaid : Prop := fnMatchSelfAndLengthRow.holds Trym.pinned (OpenSpec.ofChange fnMatchSelfAndLengthSpec)

/-- ITS FALSE NEIGHBOUR: 'it returns false'. Refute it at one input. -/
def fnMatchSelfAndLengthWrong : ChangeSpec := { name := "fnMatchSelfAndLength", fn := fun _ => fun
  | [d1, d2] => { results := [.lit (.bool false)], args := [d1, d2] }
  | _ => none }
def FnMatchSelfAndLengthWrongFalsely : Prop := fnMatchSelfAndLengthRow.holds Trym.pinned (OpenSpec.ofChange fnMatchSelfAndLengthWrong)

/-- 'zzlaws_pkg_fleet_b1.FnUserDataRoundTrip': WHATEVER THE INPUT: true; the input reads as it did. -/
def fnUserDataRoundTripSpec : ChangeSpec := { name := "fnUserDataRoundTrip", fn := fun _ => fun
  | [d1, d2, d3, d4, d5, d6] => { results := [.lit (.bool true)], args := [d1, d2, d3, d4, d5, d6] }
  | _ => none }
def fnUserDataRoundTripRow : OpenClaim := { program := "qxb6604267amods", sum := "0a081ada02a257fd6cab44249ec79a29a413990cd74f3182ccd387941890135c", func := "example.com/idlewild/idlewild/zzlaws_pkg_fleet_b1.FnUserDataRoundTrip", spec := "fnUserDataRoundTrip", make := .lifted ["publicsums"], apart := false }
def FnUserDataRoundTripSaid : Prop := fnUserDataRoundTripRow.holds Trym.pinned (OpenSpec.ofChange fnUserDataRoundTripSpec)

/-- ITS FALSE NEIGHBOUR: 'it returns false'. Refute it at one input. -/
def fnUserDataRoundTripWrong : ChangeSpec := { name := "fnUserDataRoundTrip", fn := fun _ => fun
  | [d1, d2, d3, d4, d5, d6] => { results := [.lit (.bool false)], args := [d1, d2, d3, d4, d5, d6] }
  | _ => none }
def FnUserDataRoundTripWrongFalsely : Prop := fnUserDataRoundTripRow.holds Trym.pinned (OpenSpec.ofChange fnUserDataRoundTripWrong)

/-- 'zzlaws_pkg_fleet_b1.FnUserDataLength': WHATEVER THE INPUT: true; the input reads as it did. -/
def fnUserDataLengthSpec : ChangeSpec := { name := "fnUserDataLength", fn := fun _ => fun
  | [d1, d2, d3, d4, d5, d6] => { results := [.lit (.bool true)], args := [d1, d2, d3, d4, d5, d6] }
  | _ => none }
def fnUserDataLengthRow : OpenClaim := { program := "qxb6604267amods", sum := "0a081ada02a257fd6cab44249ec79a29a413990cd74f3182ccd387941890135c", func := "example.com/idlewild/idlewild/zzlaws_pkg_fleet_b1.FnUserDataLength", spec := "fnUserDataLength", make := .lifted ["publicsums"], apart := false }
def FnUserDataLengthSaid : Prop := fnUserDataLengthRow.holds Trym.pinned (OpenSpec.ofChange fnUserDataLengthSpec)

/-- ITS FALSE NEIGHBOUR: 'it returns false'. Refute it at one input. -/
def fnUserDataLengthWrong : ChangeSpec := { name := "fnUserDataLength", fn := fun _ => fun
  | [d1, d2, d3, d4, d5, d6] => { results := [.lit (.bool false)], args := [d1, d2, d3, d4, d5, d6] }
  | _ => none }
def FnUserDataLengthWrongFalsely : Prop := fnUserDataLengthRow.holds Trym.pinned (OpenSpec.ofChange fnUserDataLengthWrong)

/-- 'zzlaws_pkg_fleet_b1.FnIsAccountIDByNumber': WHATEVER THE INPUT: true; the input reads as it did. -/
def fnIsAccountIDByNumberSpec : ChangeSpec := { name := "fnIsAccountIDByNumber", fn := fun _ => fun
  | [d] => { results := [.lit (.bool true)], args := [d] }
  | _ => none }
def fnIsAccountIDByNumberRow : OpenClaim := { program := "qxb6604267amods", sum := "0a081ada02a257fd6cab44249ec79a29a413990cd74f3182ccd387941890135c", func := "example.com/idlewild/idlewild/zzlaws_pkg_fleet_b1.FnIsAccountIDByNumber", spec := "fnIsAccountIDByNumber", make := .lifted ["publicsums"], apart := false }
def FnIsAccountIDByNumberSaid : Prop := fnIsAccountIDByNumberRow.holds Trym.pinned (OpenSpec.ofChange fnIsAccountIDByNumberSpec)

/-- ITS FALSE NEIGHBOUR: 'it returns false'. Refute it at one input. -/
def fnIsAccountIDByNumberWrong : ChangeSpec := { name := "fnIsAccountIDByNumber", fn := fun _ => fun
  | [d] => { results := [.lit (.bool false)], args := [d] }
  | _ => none }
def FnIsAccountIDByNumberWrongFalsely : Prop := fnIsAccountIDByNumberRow.holds Trym.pinned (OpenSpec.ofChange fnIsAccountIDByNumberWrong)

/-- 'zzlaws_pkg_fleet_b1.FnIsAccountIDAcceptsEveryNumber': WHATEVER THE INPUT: true; the input reads as it did. -/
def fnIsAccountIDAcceptsEveryNumberSpec : ChangeSpec := { name := "fnIsAccountIDAcceptsEveryNumber", fn := fun _ => fun
  | [d] => { results := [.lit (.bool true)], args := [d] }
  | _ => none }
def fnIsAccountIDAcceptsEveryNumberRow : OpenClaim := { program := "qxb6604267amods", sum := "0a081ada02a257fd6cab44249ec79a29a413990cd74f3182ccd387941890135c", func := "example.com/idlewild/idlewild/zzlaws_pkg_fleet_b1.FnIsAccountIDAcceptsEveryNumber", spec := "fnIsAccountIDAcceptsEveryNumber", make := .lifted ["publicsums"], apart := false }
def FnIsAccountIDAcceptsEveryNumberSaid : Prop := fnIsAccountIDAcceptsEveryNumberRow.holds Trym.pinned (OpenSpec.ofChange fnIsAccountIDAcceptsEveryNumberSpec)

/-- ITS FALSE NEIGHBOUR: 'it returns false'. Refute it at one input. -/
def fnIsAccountIDAcceptsEveryNumberWrong : ChangeSpec := { name := "fnIsAccountIDAcceptsEveryNumber", fn := fun _ => fun
  | [d] => { results := [.lit (.bool false)], args := [d] }
  | _ => none }
def FnIsAccountIDAcceptsEveryNumberWrongFalsely : Prop := fnIsAccountIDAcceptsEveryNumberRow.holds Trym.pinned (OpenSpec.ofChange fnIsAccountIDAcceptsEveryNumberWrong)

end Rows
end Go.Proofs.Qxb6604267aMods
