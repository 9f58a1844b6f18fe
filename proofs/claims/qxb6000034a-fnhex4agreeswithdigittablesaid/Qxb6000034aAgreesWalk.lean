/-
  THE WALKS OF hexDigitValue AND OF FnHex4AgreesWithDigitTable.
-/
import Derived.Test.Qxb6000034aHex4
namespace Go.Proofs.Qxb6000034a
open Go.RowKit

/-- What hexDigitValue answers. -/
def hexI (c : Nat) : Int := match hexV c with | some d => (d : Int) | none => -1

theorem tab_lo (i : Nat) (h : i < (⟨#[48, 49, 50, 51, 52, 53, 54, 55, 56, 57, 97, 98, 99, 100, 101, 102, 65, 66, 67, 68, 69, 70]⟩ : ByteArray).size) (hi : i < 16) : hexI ((⟨#[48, 49, 50, 51, 52, 53, 54, 55, 56, 57, 97, 98, 99, 100, 101, 102, 65, 66, 67, 68, 69, 70]⟩ : ByteArray)[i]'h).toNat = (i : Int) := by
  have key : ∀ i : Fin 22, i.val < 16 → hexI ((⟨#[48, 49, 50, 51, 52, 53, 54, 55, 56, 57, 97, 98, 99, 100, 101, 102, 65, 66, 67, 68, 69, 70]⟩ : ByteArray)[i.val]'i.isLt).toNat = (i.val : Int) := by decide +kernel
  exact key ⟨i, h⟩ hi
theorem tab_hi (i : Nat) (h : i < (⟨#[48, 49, 50, 51, 52, 53, 54, 55, 56, 57, 97, 98, 99, 100, 101, 102, 65, 66, 67, 68, 69, 70]⟩ : ByteArray).size) (hi : ¬ i < 16) : hexI ((⟨#[48, 49, 50, 51, 52, 53, 54, 55, 56, 57, 97, 98, 99, 100, 101, 102, 65, 66, 67, 68, 69, 70]⟩ : ByteArray)[i]'h).toNat = (i : Int) - 6 := by
  have key : ∀ i : Fin 22, ¬ i.val < 16 → hexI ((⟨#[48, 49, 50, 51, 52, 53, 54, 55, 56, 57, 97, 98, 99, 100, 101, 102, 65, 66, 67, 68, 69, 70]⟩ : ByteArray)[i.val]'i.isLt).toNat = (i.val : Int) - 6 := by decide +kernel
  exact key ⟨i, h⟩ hi
theorem tab_at (c : Nat) (hc : c < 256) (hv : hexV c ≠ none) : ∃ (i : Nat) (h : i < (⟨#[48, 49, 50, 51, 52, 53, 54, 55, 56, 57, 97, 98, 99, 100, 101, 102, 65, 66, 67, 68, 69, 70]⟩ : ByteArray).size), ((⟨#[48, 49, 50, 51, 52, 53, 54, 55, 56, 57, 97, 98, 99, 100, 101, 102, 65, 66, 67, 68, 69, 70]⟩ : ByteArray)[i]'h).toNat = c := by
  have key : ∀ c : Fin 256, hexV c.val ≠ none → ∃ i : Fin 22, ((⟨#[48, 49, 50, 51, 52, 53, 54, 55, 56, 57, 97, 98, 99, 100, 101, 102, 65, 66, 67, 68, 69, 70]⟩ : ByteArray)[i.val]'i.isLt).toNat = c.val := by decide +kernel
  obtain ⟨i, hi⟩ := key ⟨c, hc⟩ hv
  exact ⟨i.val, i.isLt, hi⟩

theorem ret_int {k : IntKind} {a b : Int} (h : a = b) : Ending.returned (.int k a) = .returned (.int k b) := by rw [h]

def DigPost (c : Nat) (w : World) (e : Ending) (w' : World) : Prop := e = .returned (.int .i64 (hexI c)) ∧ w' = w

set_option maxHeartbeats 400000 in
theorem dig_any (c : Nat) (hc : c < 256) (w : World) : Calls Try.prog 16 #[.int .u8 (c : Int)] w fun e w' => DigPost c w e w' := by
  go_enter Try.func16, Try.ntmps16
  go_wp2
  go_loop [3] (fun i => ∃ k : Nat, k ≤ 22 ∧ i = .int .i64 (k : Int) ∧ ∀ j (h : j < (⟨#[48, 49, 50, 51, 52, 53, 54, 55, 56, 57, 97, 98, 99, 100, 101, 102, 65, 66, 67, 68, 69, 70]⟩ : ByteArray).size), j < k → ((⟨#[48, 49, 50, 51, 52, 53, 54, 55, 56, 57, 97, 98, 99, 100, 101, 102, 65, 66, 67, 68, 69, 70]⟩ : ByteArray)[j]'h).toNat ≠ c) (fun i => 22 - (intOf i).toNat)
  case atStart => exact ⟨0, by omega, rfl, fun j h hj => by omega⟩
  case round =>
    obtain ⟨k, hk, rfl, hn⟩ := hrel
    by_cases hlt : k < 22
    · have hkT : k < (⟨#[48, 49, 50, 51, 52, 53, 54, 55, 56, 57, 97, 98, 99, 100, 101, 102, 65, 66, 67, 68, 69, 70]⟩ : ByteArray).size := hlt
      by_cases he : ((⟨#[48, 49, 50, 51, 52, 53, 54, 55, 56, 57, 97, 98, 99, 100, 101, 102, 65, 66, 67, 68, 69, 70]⟩ : ByteArray)[k]'hkT).toNat = c
      · have t1 : ((((⟨#[48, 49, 50, 51, 52, 53, 54, 55, 56, 57, 97, 98, 99, 100, 101, 102, 65, 66, 67, 68, 69, 70]⟩ : ByteArray)[k]'hkT).toNat : Int) == (c : Int)) = true := beq_iff_eq.2 (by omega)
        by_cases h16 : k < 16
        · have HV : Hid (hexI c = (k : Int)) := by show _ = _; rw [← he]; exact tab_lo k hkT h16
          clear hn he
          go_wp2
          go_ret
          exact ⟨ret_int HV.out.symm, rfl⟩
        · have HV : Hid (hexI c = (k : Int) - 6) := by show _ = _; rw [← he]; exact tab_hi k hkT h16
          clear hn he
          go_wp2
          go_ret
          exact ⟨ret_int HV.out.symm, rfl⟩
      · have t1 : ((((⟨#[48, 49, 50, 51, 52, 53, 54, 55, 56, 57, 97, 98, 99, 100, 101, 102, 65, 66, 67, 68, 69, 70]⟩ : ByteArray)[k]'hkT).toNat : Int) == (c : Int)) = false := beq_eq_false_iff_ne.2 (by omega)
        have HN : Hid (∀ j (h : j < (⟨#[48, 49, 50, 51, 52, 53, 54, 55, 56, 57, 97, 98, 99, 100, 101, 102, 65, 66, 67, 68, 69, 70]⟩ : ByteArray).size), j < k + 1 → ((⟨#[48, 49, 50, 51, 52, 53, 54, 55, 56, 57, 97, 98, 99, 100, 101, 102, 65, 66, 67, 68, 69, 70]⟩ : ByteArray)[j]'h).toNat ≠ c) := fun j h hj => by
          by_cases e : j = k
          · subst e; exact he
          · exact hn j h (by omega)
        clear hn he
        go_wp2
        go_round
        case rel => exact ⟨k + 1, by omega, by go_num, HN.out⟩
        case measure => simp [intOf]; omega
    · have HV : Hid (hexI c = -1) := by
        have hnone : hexV c = none := by
          cases hv : hexV c with
          | none => rfl
          | some d =>
            obtain ⟨i, h, hi⟩ := tab_at c hc (by rw [hv]; simp)
            exact absurd hi (hn i h (by have : i < 22 := h; omega))
        show _ = _
        unfold hexI
        rw [hnone]
      clear hn
      go_wp2
      go_ret
      exact ⟨ret_int HV.out.symm, rfl⟩

set_option maxHeartbeats 400000 in
theorem zz14_any (a : Option Addr) (len cap : Nat) (w : World) (h0 : len ≤ maxLen) :
    Calls Try.prog 14 #[.slice a len cap] w fun e w' => ∃ r : Bool, e = .returned (.bool r) ∧ w' = w := by
  unfold maxLen at h0
  go_enter Try.func14, Try.ntmps14
  go_wp2
  all_goals (go_ret; exact ⟨_, rfl, rfl⟩)

theorem hexI_some {c d : Nat} (h : hexV c = some d) : hexI c = (d : Int) := by unfold hexI; rw [h]
theorem hexI_none {c : Nat} (h : hexV c = none) : hexI c = -1 := by unfold hexI; rw [h]

set_option maxHeartbeats 1000000 in
theorem agrees_walk (a : Option Addr) (len cap : Nat) (z : Nat → Nat) (hz : ∀ i, z i < 256) (w : World) (h0 : len ≤ maxLen) (i0 : IsIn w a len cap (fun i => .int .u8 (z i : Int))) :
    Calls Try.prog 5 #[.slice a len cap] w fun e w' => LawPost w e w' := by
  go_enter Try.func5, Try.ntmps5
  go_wp2_with fail
  refine (zz14_any a len cap w h0).mono ?_
  rintro e w' ⟨r, rfl, rfl⟩
  unfold maxLen at h0
  cases r
  · go_wp2_with fail
    go_ret
    exact ⟨rfl, Below.refl _ _⟩
  by_cases hs : len ≤ 1048576
  case neg =>
    go_wp2_with fail
    go_ret
    exact ⟨rfl, Below.refl _ _⟩
  go_wp2_with fail
  refine (cloneBytes_any a len cap z w' hs i0).mono ?_
  rintro e w1 ⟨ao, rfl, bel1, row1⟩
  clear i0
  by_cases h4 : len < 4
  · clear row1
    go_wp2_with fail
    refine (shim4_short ao len len w1 h4).mono ?_
    rintro e w2 ⟨rfl, rfl⟩
    go_wp2
    go_ret
    exact ⟨rfl, bel1⟩
  obtain ⟨rfl, r1⟩ := row1 (by omega)
  clear row1
  have HH : Hid (Calls Try.prog 15 #[.slice (some ⟨w'.heap.size, 0, none⟩) len len] w1 fun e w'' => Hex4Post z w1 e w'') :=
    shim4 (some ⟨w'.heap.size, 0, none⟩) len len z w1 (hex4_any w'.heap.size 0 len len z (by omega) (Nat.le_refl _) (by omega) (fun i _ => hz i) w1 (fun i hi => by rw [Nat.zero_add]; exact r1.cell (by omega)))
  go_wp2_with fail
  refine HH.out.mono ?_
  clear HH
  rintro e w2 ⟨rfl, ⟨x, hx, rfl⟩ | ⟨hx, rfl⟩⟩
  · have HX : Hid (hacc z 4 = some x) := hx
    clear hx
    go_wp2
    go_loop [5, 6] (fun v i => ∃ k u : Nat, k ≤ 4 ∧ i = .int .i64 (k : Int) ∧ v = .int .i64 (u : Int) ∧ hacc z k = some u) (fun _ i => 4 - (intOf i).toNat)
    case atStart => exact ⟨0, 0, by omega, rfl, rfl, rfl⟩
    case round =>
      obtain ⟨k, u, hk, rfl, rfl, hu⟩ := hrel
      have hul := hacc_lt z k u hu
      by_cases hlt : k < 4
      · have hub : u < 4096 := Nat.lt_of_lt_of_le hul (Nat.pow_le_pow_right (n := 16) (by omega) (show k ≤ 3 from by omega))
        have ck := r1.cell (show k < len from by omega)
        obtain ⟨d, hd⟩ : ∃ d, hexV (z k) = some d := by
          cases hv : hexV (z k) with
          | none => exact absurd ((hacc_none (n := 4) (by omega) hv).symm.trans HX.out) (by simp)
          | some d => exact ⟨d, rfl⟩
        have hdl := hexV_lt hd
        have HS : Hid (hacc z (k + 1) = some (u * 16 + d)) := hacc_step hu hd
        have HD : Hid (Calls Try.prog 16 #[.int .u8 (z k : Int)] w2 fun e w' => e = .returned (.int .i64 (d : Int)) ∧ w' = w2) := by
          have := dig_any (z k) (hz k) w2
          unfold DigPost at this
          rw [hexI_some hd] at this
          exact this
        clear hd hu hul hz
        go_wp2_with fail
        refine HD.out.mono ?_
        clear HD
        rintro e w3 ⟨rfl, rfl⟩
        go_wp2
        go_round
        case rel => exact ⟨k + 1, u * 16 + d, by omega, by go_num, by rw [show ((u * 16 + d : Nat) : Int) = (u : Int) * 16 + (d : Int) from by omega], HS.out⟩
        case measure => simp [intOf]; omega
      · obtain rfl : k = 4 := by omega
        obtain rfl : u = x := Option.some.inj (hu.symm.trans HX.out)
        have hub : u < 65536 := hul
        clear hu hul hz hlt
        go_wp2
        go_ret
        exact ⟨rfl, bel1⟩
  · have HX : Hid (hacc z 4 = none) := hx
    clear hx
    go_wp2
    go_loop [5, 6] (fun v i => ∃ k u : Nat, k ≤ 4 ∧ i = .int .i64 (k : Int) ∧ v = .int .i64 (u : Int) ∧ hacc z k = some u) (fun _ i => 4 - (intOf i).toNat)
    case atStart => exact ⟨0, 0, by omega, rfl, rfl, rfl⟩
    case round =>
      obtain ⟨k, u, hk, rfl, rfl, hu⟩ := hrel
      have hul := hacc_lt z k u hu
      by_cases hlt : k < 4
      · have hub : u < 4096 := Nat.lt_of_lt_of_le hul (Nat.pow_le_pow_right (n := 16) (by omega) (show k ≤ 3 from by omega))
        have ck := r1.cell (show k < len from by omega)
        cases hd : hexV (z k) with
        | none =>
          have HD : Hid (Calls Try.prog 16 #[.int .u8 (z k : Int)] w2 fun e w' => e = .returned (.int .i64 (-1)) ∧ w' = w2) := by
            have := dig_any (z k) (hz k) w2
            unfold DigPost at this
            rw [hexI_none hd] at this
            exact this
          clear hd hu hul hz
          go_wp2_with fail
          refine HD.out.mono ?_
          clear HD
          rintro e w3 ⟨rfl, rfl⟩
          go_wp2
          go_ret
          exact ⟨rfl, bel1⟩
        | some d =>
          have hdl := hexV_lt hd
          have HS : Hid (hacc z (k + 1) = some (u * 16 + d)) := hacc_step hu hd
          have HD : Hid (Calls Try.prog 16 #[.int .u8 (z k : Int)] w2 fun e w' => e = .returned (.int .i64 (d : Int)) ∧ w' = w2) := by
            have := dig_any (z k) (hz k) w2
            unfold DigPost at this
            rw [hexI_some hd] at this
            exact this
          clear hd hu hul hz
          go_wp2_with fail
          refine HD.out.mono ?_
          clear HD
          rintro e w3 ⟨rfl, rfl⟩
          go_wp2
          go_round
          case rel => exact ⟨k + 1, u * 16 + d, by omega, by go_num, by rw [show ((u * 16 + d : Nat) : Int) = (u : Int) * 16 + (d : Int) from by omega], HS.out⟩
          case measure => simp [intOf]; omega
      · obtain rfl : k = 4 := by omega
        exact absurd (hu.symm.trans HX.out) (by simp)

end Go.Proofs.Qxb6000034a
