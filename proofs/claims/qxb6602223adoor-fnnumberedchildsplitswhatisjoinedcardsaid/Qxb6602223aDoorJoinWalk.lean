/-
  THE WALK OF FnNumberedChildSplitsWhatIsJoined.
-/
import Derived.Test.Qxb6602223aDoorChild
import Derived.Test.Qxb6602223aDoorUtoa
import Derived.Test.Qxb6602223aDoorJoined
namespace Go.Proofs.Qxb6602223aDoor
open Go.RowKit

/-- The post of a law: it returns true, and nothing that was there has turned. -/
def LawPost (w : World) (e : Ending) (w' : World) : Prop := e = .returned (.bool true) ∧ Below w.heap.size w w'

set_option maxHeartbeats 400000 in
theorem zz11_any (s : ByteArray) (N : Int) (w : World) (h0 : s.size ≤ maxLen) :
    Calls Tryd.prog 11 #[.string s, .int .u64 N] w fun e w' => ∃ r : Bool, e = .returned (.bool r) ∧ w' = w := by
  unfold maxLen at h0
  go_enter Tryd.func11, Tryd.ntmps11
  go_wp2
  all_goals (go_ret; exact ⟨_, rfl, rfl⟩)

set_option maxHeartbeats 1000000 in
theorem join_walk (s : ByteArray) (N : Nat) (hN : N < 18446744073709551616) (w : World) (h0 : s.size ≤ maxLen) (hv : Sents w) :
    Calls Tryd.prog 4 #[.string s, .int .u64 N] w fun e w' => LawPost w e w' := by
  go_enter Tryd.func4, Tryd.ntmps4
  go_wp2_with fail
  refine (zz11_any s N w h0).mono ?_
  rintro e w' ⟨r, rfl, rfl⟩
  unfold maxLen at h0
  cases r
  · go_wp2_with fail
    go_ret
    exact ⟨rfl, Below.refl _ _⟩
  by_cases hs : s.size ≤ 65536
  case neg =>
    go_wp2_with fail
    go_ret
    exact ⟨rfl, Below.refl _ _⟩
  go_wp2_with fail
  refine (utoa_any N hN w').mono ?_
  rintro e w1 ⟨t, rfl, bel1, hc, hd, ht⟩
  have C : Calls Tryd.prog 10 #[.string (s ++ ⟨#[47]⟩ ++ t)] w1 fun e w' => ChildPost s N true w1 e w' := by
    have hj : (joined s t).size ≤ 1048576 := by rw [joined_size]; omega
    have h := child_ok (joined s t) hj s.size (by rw [joined_size]; omega) (joined_last s t hc.2.1) N (by rw [joined_name, ← hd]; exact parse_canon hc (by rw [hd]; exact hN)) (by rw [joined_name]; exact canon_not_lead hc) w1
    rw [joined_parent] at h
    exact shim _ _ _ _ _ h
  have HC : Hid (Calls Tryd.prog 10 #[.string (s ++ ⟨#[47]⟩ ++ t)] w1 fun e w' => ChildPost s N true w1 e w') := C
  clear C hc hd
  go_wp2_with fail
  refine HC.out.mono ?_
  clear HC
  rintro e w2 ⟨rfl, bel2⟩
  go_wp2
  go_ret
  exact ⟨rfl, bel1.trans (bel2.mono bel1.size)⟩

end Go.Proofs.Qxb6602223aDoor
