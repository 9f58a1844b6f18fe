/-
  FROM THE ROWS' CELL 'laid' TO WHAT THE WALKS ASK OF THE TWO SENTINELS; and a start that meets the condition (the heap that the door's own run leaves).
-/
import Derived.Test.Qxb6602223aDoorChild
import Derived.LaidLaws
import Derived.LaidMore
import Derived.ProofKit
import Derived.OpenShut
import Derived.Stop.Joined
namespace Go.Proofs.Qxb6602223aDoor
open Go.ChangeShapes Go.WideShapes Go.ChangeAt Go.RowKit

theorem own : ownKnob Tryd.prog.godebug = none := by kernel_rfl
theorem tSyn : (Tryd.prog.globals[1]?).map (·.type) = some 33 := by kernel_rfl
theorem tRan : (Tryd.prog.globals[2]?).map (·.type) = some 33 := by kernel_rfl

/-- The five variables that the rows list. -/
def laid5 : List (String × DataW Unit) := Rows.fnNumberedChildSplitsWhatIsJoinedRow.laid

/-- The door's own heap meets the condition. -/
theorem door_met (os : Os) (args : Array Value) : laidMetH Tryd.prog laid5 ((World.doorLaid Tryd.prog 62 os).forCall (fun _ _ => 0) ⟨#[], args, []⟩).memory :=
  laidMetH_of_parts3 (fuel := 8) (laidMet_of_run' 8 (by kernel_rfl) (by kernel_rfl)) (by kernel_rfl) (by kernel_rfl)

theorem of_laid {W : World} (h : laidMetH Tryd.prog laid5 W) : Sents W := by
  rw [MakeChecks.laidMetH_plain _ _ _ (by kernel_rfl)] at h
  obtain ⟨ps, ⟨g0, t0, cs0, f0, p0, q0, hg0, ht0, hv0, hd0, ⟨g1, t1, cs1, f1, p1, q1, hg1, ht1, hv1, hd1, ⟨g2, t2, cs2, f2, p2, q2, hg2, ht2, hv2, hd2, ⟨g3, t3, cs3, f3, p3, q3, hg3, ht3, hv3, hd3, ⟨g4, t4, cs4, f4, p4, q4, hg4, ht4, hv4, hd4, _, _⟩, _⟩, _⟩, _⟩, _⟩, _, _⟩ := h
  obtain rfl := Option.some.inj (gRan.symm.trans hg3)
  obtain rfl := Option.some.inj (gSyn.symm.trans hg4)
  obtain rfl := Option.some.inj (tRan.symm.trans ht3)
  obtain rfl := Option.some.inj (tSyn.symm.trans ht4)
  obtain ⟨_, u3, v3, e3, _, _⟩ := iface_of_trod Tryd.underlying33 hd3
  obtain ⟨_, u4, v4, e4, _, _⟩ := iface_of_trod Tryd.underlying33 hd4
  have a3 : cs3 = #[.iface u3 v3] := Array.eq_one_of_toList e3
  have a4 : cs4 = #[.iface u4 v4] := Array.eq_one_of_toList e4
  rw [a3] at hv3
  rw [a4] at hv4
  have hc : W.cell? ⟨2, 0, none⟩ = some (.iface u3 v3) := by simpa using World.var?_cell gRan hv3 0
  exact ⟨⟨u4, v4, hv4⟩, ⟨u3, v3, hv3⟩, block_lt_of_cell hc⟩

end Go.Proofs.Qxb6602223aDoor
