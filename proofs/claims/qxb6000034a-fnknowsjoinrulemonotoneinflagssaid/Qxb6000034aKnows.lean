/-
  THE WALK OF knowsJoinRule AND OF ITS SHIM.
-/
import Derived.Test.Qxb6000034aRows
import Derived.WalkKit
import Derived.WalkSpells
import Derived.WalkLawsBesides
namespace Go.Proofs.Qxb6000034a
open Go.RowKit

/-- What knowsJoinRule answers. -/
def knowsB (k r kr : Bool) (s : ByteArray) : Bool :=
  if s.toList == [112, 117, 98, 108, 105, 99] then true else if s.toList == [105, 110, 118, 105, 116, 101] then true else if s.toList == [107, 110, 111, 99, 107] then k else if s.toList == [114, 101, 115, 116, 114, 105, 99, 116, 101, 100] then r else if s.toList == [107, 110, 111, 99, 107, 95, 114, 101, 115, 116, 114, 105, 99, 116, 101, 100] then kr else false

theorem ret_bool {a b : Bool} (h : a = b) : Ending.returned (.bool a) = .returned (.bool b) := by rw [h]

def KnowsPost (v : Bool) (w : World) (e : Ending) (w' : World) : Prop := e = .returned (.bool v) ∧ ∃ c t, w' = w.alloc (.cells c t)

set_option maxHeartbeats 1000000 in
theorem knows_any (k r kr : Bool) (s : ByteArray) (w : World) :
    Calls Try.prog 19 #[.bool k, .bool r, .bool kr, .string s] w fun e w' => KnowsPost (knowsB k r kr s) w e w' := by
  cases hp : (s.toList == [112, 117, 98, 108, 105, 99])
  case true =>
    have HV : Hid (knowsB k r kr s = true) := by show _ = _; simp [knowsB, hp]
    go_enter Try.func19, Try.ntmps19
    go_wp2
    go_ret
    exact ⟨ret_bool HV.out.symm, _, _, rfl⟩
  cases hi : (s.toList == [105, 110, 118, 105, 116, 101])
  case true =>
    have HV : Hid (knowsB k r kr s = true) := by show _ = _; simp [knowsB, hp, hi]
    go_enter Try.func19, Try.ntmps19
    go_wp2
    go_ret
    exact ⟨ret_bool HV.out.symm, _, _, rfl⟩
  cases hk : (s.toList == [107, 110, 111, 99, 107])
  case true =>
    have HV : Hid (knowsB k r kr s = k) := by show _ = _; simp [knowsB, hp, hi, hk]
    go_enter Try.func19, Try.ntmps19
    go_wp2
    go_ret
    exact ⟨ret_bool HV.out.symm, _, _, rfl⟩
  cases hr : (s.toList == [114, 101, 115, 116, 114, 105, 99, 116, 101, 100])
  case true =>
    have HV : Hid (knowsB k r kr s = r) := by show _ = _; simp [knowsB, hp, hi, hk, hr]
    go_enter Try.func19, Try.ntmps19
    go_wp2
    go_ret
    exact ⟨ret_bool HV.out.symm, _, _, rfl⟩
  cases hq : (s.toList == [107, 110, 111, 99, 107, 95, 114, 101, 115, 116, 114, 105, 99, 116, 101, 100])
  case true =>
    have HV : Hid (knowsB k r kr s = kr) := by show _ = _; simp [knowsB, hp, hi, hk, hr, hq]
    go_enter Try.func19, Try.ntmps19
    go_wp2
    go_ret
    exact ⟨ret_bool HV.out.symm, _, _, rfl⟩
  have HV : Hid (knowsB k r kr s = false) := by show _ = _; simp [knowsB, hp, hi, hk, hr, hq]
  go_enter Try.func19, Try.ntmps19
  go_wp2
  go_ret
  exact ⟨ret_bool HV.out.symm, _, _, rfl⟩

theorem knows_mono {k1 r1 q1 k2 r2 q2 : Bool} {s : ByteArray} (hk : k1 = true → k2 = true) (hr : r1 = true → r2 = true) (hq : q1 = true → q2 = true) (h : knowsB k1 r1 q1 s = true) : knowsB k2 r2 q2 s = true := by
  unfold knowsB at h ⊢
  by_cases c1 : (s.toList == [112, 117, 98, 108, 105, 99]) = true
  · rw [if_pos c1]
  rw [if_neg c1] at h ⊢
  by_cases c2 : (s.toList == [105, 110, 118, 105, 116, 101]) = true
  · rw [if_pos c2]
  rw [if_neg c2] at h ⊢
  by_cases c3 : (s.toList == [107, 110, 111, 99, 107]) = true
  · rw [if_pos c3] at h ⊢; exact hk h
  rw [if_neg c3] at h ⊢
  by_cases c4 : (s.toList == [114, 101, 115, 116, 114, 105, 99, 116, 101, 100]) = true
  · rw [if_pos c4] at h ⊢; exact hr h
  rw [if_neg c4] at h ⊢
  by_cases c5 : (s.toList == [107, 110, 111, 99, 107, 95, 114, 101, 115, 116, 114, 105, 99, 116, 101, 100]) = true
  · rw [if_pos c5] at h ⊢; exact hq h
  rw [if_neg c5] at h
  cases h

theorem knows_open {k r q : Bool} {s : ByteArray} (h : knowsB k r q s = false) : (s.toList == [112, 117, 98, 108, 105, 99]) = false ∧ (s.toList == [105, 110, 118, 105, 116, 101]) = false := by
  unfold knowsB at h
  by_cases c1 : (s.toList == [112, 117, 98, 108, 105, 99]) = true
  · rw [if_pos c1] at h; cases h
  rw [if_neg c1] at h
  by_cases c2 : (s.toList == [105, 110, 118, 105, 116, 101]) = true
  · rw [if_pos c2] at h; cases h
  exact ⟨by simpa using c1, by simpa using c2⟩

end Go.Proofs.Qxb6000034a
