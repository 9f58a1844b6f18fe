/-
  THE WALK OF FnNumberedChildMatchesModel.
-/
import Derived.Test.Qxb6602223aDoorModelParts
namespace Go.Proofs.Qxb6602223aDoor
open Go.RowKit

/-- The post of a law: it returns true, and nothing that was there has turned. -/
def ModelPost (w : World) (e : Ending) (w' : World) : Prop := e = .returned (.bool true) ∧ Below w.heap.size w w'

set_option maxHeartbeats 400000 in
theorem zz6_any (s : ByteArray) (w : World) (h0 : s.size ≤ maxLen) :
    Calls Tryd.prog 6 #[.string s] w fun e w' => ∃ r : Bool, e = .returned (.bool r) ∧ w' = w := by
  unfold maxLen at h0
  go_enter Tryd.func6, Tryd.ntmps6
  go_wp2
  all_goals (go_ret; exact ⟨_, rfl, rfl⟩)

theorem bang_get (s : ByteArray) (k : Nat) (h : k < s.size) : s.data[k]! = s[k]'h := by
  have h' : k < s.data.size := h
  rw [Array.getElem!_eq_getD, Array.getD_eq_getD_getElem?, Array.getElem?_eq_getElem h']
  rfl

theorem last_le (s : ByteArray) (k : Nat) : -1 ≤ Lib.lastIdx s 47 k ∧ Lib.lastIdx s 47 k < k := by
  rcases Lib.lastIdx_spec s 47 k with ⟨e, _⟩ | ⟨i, hi, e, _⟩
  · rw [e]; omega
  · rw [e]; omega

/-- The child where the model refuses. -/
theorem child_refused (s : ByteArray) (hs : s.size ≤ 1048576) (i : Nat) (hi : i < s.size) (hl : Lib.lastIndexByte s 47 = i) (hn : ¬ (Canon (s.extract (i + 1) s.size).data.toList ∧ dval 0 (s.extract (i + 1) s.size).data.toList < 18446744073709551616)) (w : World) (hv : Sents w) :
    Calls Tryd.prog 10 #[.string s] w fun e w' => ChildPost ByteArray.empty 0 false w e w' := by
  refine shim _ _ _ _ _ ?_
  by_cases hu : ∃ u, Lib.parseUintB 64 (s.extract (i + 1) s.size).data.toList = .ok u
  · obtain ⟨u, hu⟩ := hu
    by_cases hl0 : Lead0 (s.extract (i + 1) s.size).data.toList
    · exact child_lead s hs i hi hl u hu hl0 w
    · exact absurd (parse_not hu hl0) hn
  · exact child_bad s hs i hi hl (fun u h => hu ⟨u, h⟩) w hv

set_option maxHeartbeats 1000000 in
theorem model_walk (s : ByteArray) (w : World) (h0 : s.size ≤ maxLen) (hv : Sents w) :
    Calls Tryd.prog 3 #[.string s] w fun e w' => ModelPost w e w' := by
  go_enter Tryd.func3, Tryd.ntmps3
  go_wp2_with fail
  refine (zz6_any s w h0).mono ?_
  rintro e w' ⟨r, rfl, rfl⟩
  unfold maxLen at h0
  cases r
  · go_wp2_with fail
    go_ret
    exact ⟨rfl, Below.refl _ _⟩
  by_cases hs : s.size ≤ 65536
  case neg =>
    go_wp2_with fail
    go_ret
    exact ⟨rfl, Below.refl _ _⟩
  go_wp2_with fail
  go_loop [3, 4] (fun x i => ∃ k : Nat, k ≤ s.size ∧ i = .int .i64 k ∧ x = .int .i64 (Lib.lastIdx s 47 k)) (fun _ i => s.size - (intOf i).toNat)
  case atStart => exact ⟨0, Nat.zero_le _, rfl, rfl⟩
  case round =>
    obtain ⟨k, hk, rfl, rfl⟩ := hrel
    by_cases hlt : k < s.size
    · have HB : Hid (s.data[k]! = s[k]'hlt) := bang_get s k hlt
      by_cases hc : ((s[k]'hlt).toNat : Int) = 47
      · have t1 : (((s[k]'hlt).toNat : Int) == 47) = true := beq_iff_eq.2 hc
        have HI : Hid (Lib.lastIdx s 47 (k + 1) = k) := Lib.lastIdx_hit s 47 k (by rw [HB.out]; exact hc)
        clear hc
        go_wp2
        go_round
        case rel => exact ⟨k + 1, by omega, by go_num, by rw [HI.out]⟩
        case measure => simp [intOf]; omega
      · have t1 : (((s[k]'hlt).toNat : Int) == 47) = false := beq_eq_false_iff_ne.2 hc
        have HI : Hid (Lib.lastIdx s 47 (k + 1) = Lib.lastIdx s 47 k) := Lib.lastIdx_miss s 47 k (by rw [HB.out]; exact hc)
        clear hc
        go_wp2
        go_round
        case rel => exact ⟨k + 1, by omega, by go_num, by rw [HI.out]⟩
        case measure => simp [intOf]; omega
    obtain rfl : k = s.size := by omega
    clear hlt
    rcases Lib.lastIndexByte_spec s 47 with ⟨e, _⟩ | ⟨i, hi, e, _, _⟩
    · have C : Hid (Calls Tryd.prog 10 #[.string s] w' fun e w'' => ChildPost ByteArray.empty 0 false w' e w'') := shim _ _ _ _ _ (child_none s (by omega) e w')
      rw [show Lib.lastIdx s 47 s.size = -1 from e]
      clear e
      go_wp2_with fail
      refine C.out.mono ?_
      clear C
      rintro e w2 ⟨rfl, bel2⟩
      go_wp2
      go_ret
      exact ⟨rfl, bel2⟩
    · rw [show Lib.lastIdx s 47 s.size = i from e]
      have hnm : (s.extract (i + 1) s.size).size ≤ 1048576 := by simp; omega
      have HR : Hid (∀ W, Sents W → ¬ (Canon (s.extract (i + 1) s.size).data.toList ∧ dval 0 (s.extract (i + 1) s.size).data.toList < 18446744073709551616) → Calls Tryd.prog 10 #[.string s] W fun e w'' => ChildPost ByteArray.empty 0 false W e w'') :=
        fun W hW hn => child_refused s (by omega) i hi e hn W hW
      have HT : Hid (∀ W, Canon (s.extract (i + 1) s.size).data.toList → dval 0 (s.extract (i + 1) s.size).data.toList < 18446744073709551616 → Calls Tryd.prog 10 #[.string s] W fun e w'' => ChildPost (s.extract 0 i) (dval 0 (s.extract (i + 1) s.size).data.toList) true W e w'') :=
        fun W hc hf => shim _ _ _ _ _ (child_ok s (by omega) i hi e _ (parse_canon hc hf) (canon_not_lead hc) W)
      clear e
      go_wp2_with fail
      refine (canon_any (s.extract (i + 1) s.size) hnm w').mono ?_
      rintro e w1 ⟨r, rfl, rfl, hr⟩
      cases r
      · have C := HR.out w1 hv (fun h => absurd (hr.2 h.1) (by simp))
        have HC : Hid (Calls Tryd.prog 10 #[.string s] w1 fun e w'' => ChildPost ByteArray.empty 0 false w1 e w'') := C
        clear C HR HT hr
        go_wp2_with fail
        refine HC.out.mono ?_
        clear HC
        rintro e w2 ⟨rfl, bel2⟩
        go_wp2
        go_ret
        exact ⟨rfl, bel2⟩
      · have hcan := hr.1 rfl
        clear hr
        have F := fits_any (s.extract (i + 1) s.size) hnm hcan w1
        have HCN : Hid (Canon (s.extract (i + 1) s.size).data.toList) := hcan
        have HF : Hid (Calls Tryd.prog 8 #[.string (s.extract (i + 1) s.size)] w1 fun e w' => FitsPost (s.extract (i + 1) s.size) w1 e w') := F
        clear F hcan
        go_wp2_with fail
        refine HF.out.mono ?_
        clear HF
        rintro e w2 ⟨r, rfl, bel2, hr⟩
        cases r
        · have HC : Hid (Calls Tryd.prog 10 #[.string s] w2 fun e w'' => ChildPost ByteArray.empty 0 false w2 e w'') := HR.out w2 (hv.later bel2) (fun h => absurd (hr.2 h.2) (by simp))
          clear HR HT hr
          go_wp2_with fail
          refine HC.out.mono ?_
          clear HC
          rintro e w3 ⟨rfl, bel3⟩
          go_wp2
          go_ret
          exact ⟨rfl, bel2.trans (bel3.mono bel2.size)⟩
        · have hf := hr.1 rfl
          have HV : Hid (Calls Tryd.prog 9 #[.string (s.extract (i + 1) s.size)] w2 fun e w' => e = .returned (.int .u64 (dval 0 (s.extract (i + 1) s.size).data.toList : Nat)) ∧ w' = w2) := value_any (s.extract (i + 1) s.size) hnm HCN.out.2.1 hf w2
          have HC : Hid (Calls Tryd.prog 10 #[.string s] w2 fun e w'' => ChildPost (s.extract 0 i) (dval 0 (s.extract (i + 1) s.size).data.toList) true w2 e w'') := HT.out w2 HCN.out hf
          clear HR HT hr hf
          go_wp2_with fail
          refine HV.out.mono ?_
          clear HV
          rintro e w3 ⟨rfl, rfl⟩
          generalize dval 0 (s.extract (i + 1) s.size).data.toList = D at HC ⊢
          go_wp2_with fail
          refine HC.out.mono ?_
          clear HC
          rintro e w4 ⟨rfl, bel4⟩
          go_wp2
          go_ret
          exact ⟨rfl, bel2.trans (bel4.mono bel2.size)⟩

end Go.Proofs.Qxb6602223aDoor
