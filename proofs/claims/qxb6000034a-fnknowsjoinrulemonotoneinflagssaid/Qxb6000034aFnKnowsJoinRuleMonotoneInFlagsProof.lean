/-
  THE SHELL OF A PROOF OF 'Rows.FnKnowsJoinRuleMonotoneInFlagsSaid' ('example.com/resolvent/resolvent/zzlaws_root_b1.FnKnowsJoinRuleMonotoneInFlags'), WRITTEN BY PROGRAM (proof-skeleton.mjs) off the guide's own print for that function. Not trusted: Lean checks it.
  THE WALK IS FILLED IN. ALL ELSE IS THE GUIDE's TEMPLATE (howto/template/XProofs.lean) at this function's number and types: leave it.
-/
import Derived.Test.Qxb6000034aRows
import Derived.WalkKit
import Derived.ProofKit
import Derived.OpenShut
import Derived.ShutString
import Derived.Test.Qxb6000034aKnows
namespace Go.Proofs.Qxb6000034a.fnKnowsJoinRuleMonotoneInFlags
open Go.ChangeShapes Go.WideShapes Go.ChangeAt Go.RowKit
open Go.ChangeMaps (open_string shut_string)
set_option linter.unusedVariables false      -- a walk need not use every 'w<i>' (that an integer argument fits its kind)

theorem own : ownKnob Try.prog.godebug = none := by kernel_rfl

set_option maxHeartbeats 400000 in
theorem zz18_any (a0 a1 a2 a3 a4 a5 : Bool) (s : ByteArray) (w : World) (h0 : s.size ≤ maxLen) :
    Calls Try.prog 18 #[.bool a0, .bool a1, .bool a2, .bool a3, .bool a4, .bool a5, .string s] w fun e w' => ∃ r : Bool, e = .returned (.bool r) ∧ w' = w := by
  unfold maxLen at h0
  go_enter Try.func18, Try.ntmps18
  go_wp2
  all_goals (go_ret; exact ⟨_, rfl, rfl⟩)

set_option maxHeartbeats 2000000
/-! ### STEP 1: THE WALK: the Go text returns true. 'Grown w w'': the world has at most new blocks (Derived/RowKit3.lean). Part the cases AHEAD of 'go_enter' where a test parts the walk; take each callee by a contract of your own. -/
theorem walk (a0 : Bool) (a1 : Bool) (a2 : Bool) (a3 : Bool) (a4 : Bool) (a5 : Bool) (a6 : ByteArray) (w6 : a6.size ≤ maxLen) (w : World) :
    Calls Try.prog 7 #[.bool a0, .bool a1, .bool a2, .bool a3, .bool a4, .bool a5, .string a6] w fun e w' => e = .returned (.bool true) ∧ Grown w w' := by
  go_enter Try.func7, Try.ntmps7
  go_wp2_with fail
  refine (zz18_any a0 a1 a2 a3 a4 a5 a6 w w6).mono ?_
  rintro e w' ⟨r, rfl, rfl⟩
  unfold maxLen at w6
  cases r
  · go_wp2_with fail
    go_ret
    exact ⟨rfl, Grown.refl _⟩
  by_cases hs : a6.size ≤ 1048576
  case neg =>
    go_wp2_with fail
    go_ret
    exact ⟨rfl, Grown.refl _⟩
  by_cases hk : a0 = true ∧ a3 = false
  · obtain ⟨rfl, rfl⟩ := hk
    go_wp2_with fail
    go_ret
    exact ⟨rfl, Grown.refl _⟩
  have hk' : a0 = true → a3 = true := fun h => by cases a3 <;> simp_all
  by_cases hr : a1 = true ∧ a4 = false
  · obtain ⟨rfl, rfl⟩ := hr
    clear hk
    rcases (show a0 = false ∨ (a0 = true ∧ a3 = true) from by cases a0 <;> simp_all) with rfl | ⟨rfl, rfl⟩
    all_goals
      clear hk'
      go_wp2_with fail
      go_ret
      exact ⟨rfl, Grown.refl _⟩
  have hr' : a1 = true → a4 = true := fun h => by cases a4 <;> simp_all
  by_cases hq : a2 = true ∧ a5 = false
  · obtain ⟨rfl, rfl⟩ := hq
    clear hk hr
    rcases (show a0 = false ∨ (a0 = true ∧ a3 = true) from by cases a0 <;> simp_all) with rfl | ⟨rfl, rfl⟩
    all_goals
      clear hk'
      rcases (show a1 = false ∨ (a1 = true ∧ a4 = true) from by cases a1 <;> simp_all) with rfl | ⟨rfl, rfl⟩
      all_goals
        clear hr'
        go_wp2_with fail
        go_ret
        exact ⟨rfl, Grown.refl _⟩
  have hq' : a2 = true → a5 = true := fun h => by cases a5 <;> simp_all
  clear hk hr hq
  have HM : Hid (knowsB a0 a1 a2 a6 = true → knowsB a3 a4 a5 a6 = true) := fun h => knows_mono hk' hr' hq' h
  have HO : Hid (knowsB a0 a1 a2 a6 = false → (a6.toList == [112, 117, 98, 108, 105, 99]) = false ∧ (a6.toList == [105, 110, 118, 105, 116, 101]) = false) := fun h => knows_open h
  have HA : Hid (∀ W, Calls Try.prog 19 #[.bool a0, .bool a1, .bool a2, .string a6] W fun e w' => KnowsPost (knowsB a0 a1 a2 a6) W e w') := fun W => knows_any a0 a1 a2 a6 W
  have HB : Hid (∀ W, Calls Try.prog 19 #[.bool a3, .bool a4, .bool a5, .string a6] W fun e w' => KnowsPost (knowsB a3 a4 a5 a6) W e w') := fun W => knows_any a3 a4 a5 a6 W
  generalize knowsB a0 a1 a2 a6 = A at HM HO HA
  generalize knowsB a3 a4 a5 a6 = B at HM HB
  rcases (show a0 = false ∨ (a0 = true ∧ a3 = true) from by cases a0 <;> simp_all) with rfl | ⟨rfl, rfl⟩
  all_goals
    clear hk'
    rcases (show a1 = false ∨ (a1 = true ∧ a4 = true) from by cases a1 <;> simp_all) with rfl | ⟨rfl, rfl⟩
    all_goals
      clear hr'
      rcases (show a2 = false ∨ (a2 = true ∧ a5 = true) from by cases a2 <;> simp_all) with rfl | ⟨rfl, rfl⟩
      all_goals
        clear hq'
        go_wp2_with fail
        refine (HA.out _).mono ?_
        rintro e w1 ⟨rfl, c1, t1, rfl⟩
        go_wp2_with fail
        refine (HB.out _).mono ?_
        rintro e w2 ⟨rfl, c2, t2, rfl⟩
        cases A
        · obtain ⟨n1, n2⟩ := HO.out rfl
          clear HA HB HO HM
          go_wp2
          go_ret
          exact ⟨rfl, ((Grown.refl _).alloc _ _).alloc _ _⟩
        · have hB := HM.out rfl
          subst hB
          clear HA HB HO HM
          go_wp2
          all_goals
            go_ret
            exact ⟨rfl, ((Grown.refl _).alloc _ _).alloc _ _⟩

/-! ### THE ROW's STEP: WRITTEN OUT: LEAVE IT -/
set_option maxRecDepth 100000 in
theorem lifted (os : Os) (started : os.Started) (H : Type) (enc : TypeId × Value → H) :
    ReturnsInHanded {} Try.checked os 7 .any (Rows.fnKnowsJoinRuleMonotoneInFlagsSpec.pre6 enc Try.prog Try.f7 Rows.fnKnowsJoinRuleMonotoneInFlagsRow.domain false) (Rows.fnKnowsJoinRuleMonotoneInFlagsSpec.post enc Try.prog Try.f7 false true false false) := by
  refine returnsInHanded_of_change (C := Try.checked) own started (by kernel_rfl) Try.func7
    (ChangeSpec.witness6 (enc := enc) (C := Try.checked) false ⟨#[], #[.bool false, .bool false, .bool false, .bool false, .bool false, .bool false, .string ByteArray.empty], []⟩ 8 (by kernel_rfl) (by kernel_rfl) (by kernel_rfl) (by kernel_rfl)) ?_
  intro W base args ds gs before hval0 hW hcnd _
  have hval : ∀ (j : Nat) t v, Try.f7.params[j]? = some t → args[j]? = some v → Value.okWide Try.prog W .any base t v := hval0
  have hW' := hW
  obtain ⟨p, q, hA0, hV, rfl, hfz, hnd⟩ := hW
  have hA : DataW.TrodAll enc Try.prog W 0 (fun _ => true) true Try.f7.params.toList args.toList ds p := hA0
  rw [Try.params7] at hA hval
  obtain ⟨v0, vs0, d0, ds0, p0, q0, hargs, rfl, rfl, h0, r0⟩ := trodAll_cons hA
  obtain ⟨v1, vs1, d1, ds1, p1, q1, rfl, rfl, rfl, h1, r1⟩ := trodAll_cons r0
  obtain ⟨v2, vs2, d2, ds2, p2, q2, rfl, rfl, rfl, h2, r2⟩ := trodAll_cons r1
  obtain ⟨v3, vs3, d3, ds3, p3, q3, rfl, rfl, rfl, h3, r3⟩ := trodAll_cons r2
  obtain ⟨v4, vs4, d4, ds4, p4, q4, rfl, rfl, rfl, h4, r4⟩ := trodAll_cons r3
  obtain ⟨v5, vs5, d5, ds5, p5, q5, rfl, rfl, rfl, h5, r5⟩ := trodAll_cons r4
  obtain ⟨v6, vs6, d6, ds6, p6, q6, rfl, rfl, rfl, h6, r6⟩ := trodAll_cons r5
  obtain ⟨rfl, rfl, rfl⟩ := trodAll_nil r6
  obtain rfl : args = #[v0, v1, v2, v3, v4, v5, v6] := by cases args; simp_all
  obtain ⟨rfl, rfl⟩ := trodVars_none hV
  obtain ⟨a0, rfl, rfl, rfl⟩ := open_bool Try.underlying4 (hval 0 4 v0 rfl rfl) h0
  obtain ⟨a1, rfl, rfl, rfl⟩ := open_bool Try.underlying4 (hval 1 4 v1 rfl rfl) h1
  obtain ⟨a2, rfl, rfl, rfl⟩ := open_bool Try.underlying4 (hval 2 4 v2 rfl rfl) h2
  obtain ⟨a3, rfl, rfl, rfl⟩ := open_bool Try.underlying4 (hval 3 4 v3 rfl rfl) h3
  obtain ⟨a4, rfl, rfl, rfl⟩ := open_bool Try.underlying4 (hval 4 4 v4 rfl rfl) h4
  obtain ⟨a5, rfl, rfl, rfl⟩ := open_bool Try.underlying4 (hval 5 4 v5 rfl rfl) h5
  obtain ⟨a6, rfl, rfl, rfl, w6⟩ := open_string Try.underlying9 (hval 6 9 v6 rfl rfl) h6
  clear hA0 hval0
  simp only [List.append_nil] at hW'
  refine (walk a0 a1 a2 a3 a4 a5 a6 w6 W).mono fun e W' ⟨he, hg⟩ => ?_
  subst he
  exact ⟨_, rfl, post_of_same (pa := []) (pv := []) hW' (fun _ _ _ => (trodAll_cons_mk (shut_bool Try.underlying4 _) trodAll_mk0)) (fun sp _ => (trodAll_cons_mk (shut_bool Try.underlying4 _) (trodAll_cons_mk (shut_bool Try.underlying4 _) (trodAll_cons_mk (shut_bool Try.underlying4 _) (trodAll_cons_mk (shut_bool Try.underlying4 _) (trodAll_cons_mk (shut_bool Try.underlying4 _) (trodAll_cons_mk (shut_bool Try.underlying4 _) (trodAll_cons_mk (shut_string Try.underlying9 w6) trodAll_mk0)))))))) (fun _ _ => rfl) rfl
    (hg.frame _) hg.2.1 (ok_one (by kernel_rfl) rfl (okWide_bool_mk Try.underlying4 _))⟩

theorem over : Rows.fnKnowsJoinRuleMonotoneInFlagsRow.holds Try.pinned (OpenSpec.ofChange Rows.fnKnowsJoinRuleMonotoneInFlagsSpec) :=
  OpenClaim.holds_of_wide 7 Try.f7 rfl rfl rfl rfl rfl rfl rfl ⟨rfl, rfl, rfl, rfl, rfl⟩ rfl rfl rfl rfl rfl (by kernel_rfl) Try.func7 (by kernel_rfl)
    (of_decide_eq_true (by kernel_rfl)) (by unfold Func.isWrapper; first | (rw [if_pos (by decide +kernel)]; kernel_rfl) | (rw [if_neg (by decide +kernel)]; exact ⟨rfl, rfl⟩))
    (fun os started H enc _ => lifted os started H enc)

/-- ████ THE STATEMENT ████ -/
theorem proved : Rows.FnKnowsJoinRuleMonotoneInFlagsSaid :=
  over
#print axioms proved
end Go.Proofs.Qxb6000034a.fnKnowsJoinRuleMonotoneInFlags
