/-
  No cell of these rows narrows 'for every input' (looked for: loops, veiled, ifaces, maps, wideKeys, modest, calm, conditions, laid).
  DERIVED. THE GIVEN ROWS OF THIS SEAT. 3 by the template 'for every input the law returns true; each argument reads behind the call as it read before'; 0 by the template 'total and deterministic' (their statements: Qxb6602223aTotals.lean).
  GIVEN WITH THE SEED: the statements are not yours to turn. If you find one false, say at which input.
  Laid BY PROGRAM, IN A SANDBOX (cutbox-rows.mjs): the forced cells as the released guide's own fill.sh prints them over the translation f9e539c319d2922f… (all of the seat's roots in one cut). By AI agents, Wed Nov 11 2026. No macro, syntax, notation, axiom, sorry.
-/
import Derived.Test.Qxb6602223aChecked
import GoSem.Claim
import GoSem.ClaimJoined
import GoSem.ClaimMapViews
import Derived.JoinedTies
import Derived.KernelRfl
namespace Go.Proofs.Qxb6602223a
/- THE CELL 'sum', in the pinned program and in every row, IS THE sha256 OF THE DUMP (.gsa) THAT Qxb6602223aProg.lean LOADS. Nothing in Lean hashes anything: it is a label: what it is worth is what the hold of that sum in a sandbox is worth. -/
noncomputable def Try.pinned : Pinned := { name := "qxb6602223a", sum := "f9e539c319d2922f2b43a3045dbf6a6d9a3d89a022cc41df967854b5a47e9b10", checked := Try.checked }
namespace Rows
def none {H : Type} : Left H := { results := [], args := [] }

/-- 'zzlaws_root_b1.FnKeepBuildsFirstMarkedTree': WHATEVER THE INPUT: true; the input reads as it did. -/
def fnKeepBuildsFirstMarkedTreeSpec : ChangeSpec := { name := "fnKeepBuildsFirstMarkedTree", fn := fun _ => fun
  | [d1, d2, d3, d4] => { results := [.lit (.bool true)], args := [d1, d2, d3, d4] }
  | _ => none }
def fnKeepBuildsFirstMarkedTreeRow : OpenClaim := { program := "qxb6602223a", sum := "f9e539c319d2922f2b43a3045dbf6a6d9a3d89a022cc41df967854b5a47e9b10", func := "example.com/lockwright/lockwright/zzlaws_root_b1.FnKeepBuildsFirstMarkedTree", spec := "fnKeepBuildsFirstMarkedTree", apart := false }
def FnKeepBuildsFirstMarkedTreeSaid : Prop := fnKeepBuildsFirstMarkedTreeRow.holds Try.pinned (OpenSpec.ofChange fnKeepBuildsFirstMarkedTreeSpec)

/-- ITS FALSE NEIGHBOUR: 'it returns false'. Refute it at one input. -/
def fnKeepBuildsFirstMarkedTreeWrong : ChangeSpec := { name := "fnKeepBuildsFirstMarkedTree", fn := fun _ => fun
  | [d1, d2, d3, d4] => { results := [.lit (.bool false)], args := [d1, d2, d3, d4] }
  | _ => none }
def FnKeepBuildsFirstMarkedTreeWrongFalsely : Prop := fnKeepBuildsFirstMarkedTreeRow.holds Try.pinned (OpenSpec.ofChange fnKeepBuildsFirstMarkedTreeWrong)

/-- 'zzlaws_root_b1.FnKeepRootIsLeastMarkedPlace': WHATEVER THE INPUT: true; the input reads as it did. -/
def fnKeepRootIsLeastMarkedPlaceSpec : ChangeSpec := { name := "fnKeepRootIsLeastMarkedPlace", fn := fun _ => fun
  | [d1, d2] => { results := [.lit (.bool true)], args := [d1, d2] }
  | _ => none }
def fnKeepRootIsLeastMarkedPlaceRow : OpenClaim := { program := "qxb6602223a", sum := "f9e539c319d2922f2b43a3045dbf6a6d9a3d89a022cc41df967854b5a47e9b10", func := "example.com/lockwright/lockwright/zzlaws_root_b1.FnKeepRootIsLeastMarkedPlace", spec := "fnKeepRootIsLeastMarkedPlace", apart := false }
def FnKeepRootIsLeastMarkedPlaceSaid : Prop := fnKeepRootIsLeastMarkedPlaceRow.holds Try.pinned (OpenSpec.ofChange fnKeepRootIsLeastMarkedPlaceSpec)

/-- ITS FALSE NEIGHBOUR: 'it returns false'. Refute it at one input. -/
def fnKeepRootIsLeastMarkedPlaceWrong : ChangeSpec := { name := "fnKeepRootIsLeastMarkedPlace", fn := fun _ => fun
  | [d1, d2] => { results := [.lit (.bool false)], args := [d1, d2] }
  | _ => none }
def FnKeepRootIsLeastMarkedPlaceWrongFalsely : Prop := fnKeepRootIsLeastMarkedPlaceRow.holds Try.pinned (OpenSpec.ofChange fnKeepRootIsLeastMarkedPlaceWrong)

/-- 'zzlaws_root_b1.FnKeepMoreMarksNeverLater': WHATEVER THE INPUT: true; the input reads as it did. -/
def fnKeepMoreMarksNeverLaterSpec : ChangeSpec := { name := "fnKeepMoreMarksNeverLater", fn := fun _ => fun
  | [d1, d2, d3] => { results := [.lit (.bool true)], args := [d1, d2, d3] }
  | _ => none }
def fnKeepMoreMarksNeverLaterRow : OpenClaim := { program := "qxb6602223a", sum := "f9e539c319d2922f2b43a3045dbf6a6d9a3d89a022cc41df967854b5a47e9b10", func := "example.com/lockwright/lockwright/zzlaws_root_b1.FnKeepMoreMarksNeverLater", spec := "fnKeepMoreMarksNeverLater", apart := false }
def FnKeepMoreMarksNeverLaterSaid : Prop := fnKeepMoreMarksNeverLaterRow.holds Try.pinned (OpenSpec.ofChange fnKeepMoreMarksNeverLaterSpec)

/-- ITS FALSE NEIGHBOUR: 'it returns false'. Refute it at one input. -/
def fnKeepMoreMarksNeverLaterWrong : ChangeSpec := { name := "fnKeepMoreMarksNeverLater", fn := fun _ => fun
  | [d1, d2, d3] => { results := [.lit (.bool false)], args := [d1, d2, d3] }
  | _ => none }
def FnKeepMoreMarksNeverLaterWrongFalsely : Prop := fnKeepMoreMarksNeverLaterRow.holds Try.pinned (OpenSpec.ofChange fnKeepMoreMarksNeverLaterWrong)

end Rows
end Go.Proofs.Qxb6602223a
