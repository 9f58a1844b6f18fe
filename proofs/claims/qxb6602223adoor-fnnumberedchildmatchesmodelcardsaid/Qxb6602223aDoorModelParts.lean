/-
  THE WALKS OF isCanonicalDecimal, fitsUint64, decimalValue.
-/
import Derived.Test.Qxb6602223aDoorChild
import Derived.BigRegion
namespace Go.Proofs.Qxb6602223aDoor
open Go.RowKit

theorem getD_get (l : List UInt8) (j : Nat) (h : j < l.length) : l.getD j 0 = l[j]'h := by
  rw [List.getD_eq_getElem?_getD, List.getElem?_eq_getElem h]
  rfl

/-- Byte j of s. -/
def byte (s : ByteArray) (j : Nat) : Nat := (s.data.toList.getD j 0).toNat
theorem byte_get (s : ByteArray) (j : Nat) (h : j < s.size) : (s[j]'h).toNat = byte s j := by
  unfold byte
  have h' : j < s.data.toList.length := by rw [len_data]; exact h
  have e : s[j]'h = s.data.toList[j]'h' := by rw [Array.getElem_toList]; rfl
  rw [e, getD_get _ _ h']

theorem allDig_of {s : ByteArray} (h : ∀ j, j < s.size → 48 ≤ byte s j ∧ byte s j ≤ 57) : AllDig s.data.toList := by
  intro c hc
  obtain ⟨j, hj, rfl⟩ := List.mem_iff_getElem.1 hc
  have := h j (by rw [← len_data]; exact hj)
  unfold byte at this
  rw [getD_get _ _ hj] at this
  exact this
theorem allDig_at {s : ByteArray} (h : AllDig s.data.toList) (j : Nat) (hj : j < s.size) : 48 ≤ byte s j ∧ byte s j ≤ 57 := by
  have h' : j < s.data.toList.length := by rw [len_data]; exact hj
  have := h (s.data.toList[j]'h') (List.getElem_mem h')
  unfold byte
  rw [getD_get _ _ h']
  exact this
theorem head_byte (s : ByteArray) : (s.data.toList.headD 0).toNat = byte s 0 := by
  unfold byte
  cases s.data.toList <;> rfl
theorem ne_nil {s : ByteArray} (h : 0 < s.size) : s.data.toList ≠ [] := by
  intro e
  have := len_data s
  rw [e] at this
  simp at this
  omega

def CanonPost (s : ByteArray) (w : World) (e : Ending) (w' : World) : Prop := ∃ r : Bool, e = .returned (.bool r) ∧ w' = w ∧ (r = true ↔ Canon s.data.toList)

set_option maxHeartbeats 400000 in
theorem canon_any (s : ByteArray) (hs : s.size ≤ 1048576) (w : World) : Calls Tryd.prog 7 #[.string s] w fun e w' => CanonPost s w e w' := by
  by_cases h0 : 0 < s.size
  · have hz : ((s.size : Int) == 0) = false := beq_eq_false_iff_ne.2 (by omega)
    go_enter Tryd.func7, Tryd.ntmps7
    go_wp2
    go_loop [3] (fun i => ∃ k : Nat, k ≤ s.size ∧ i = .int .i64 k ∧ ∀ j, j < k → 48 ≤ byte s j ∧ byte s j ≤ 57) (fun i => s.size - (intOf i).toNat)
    case atStart => exact ⟨0, Nat.zero_le _, rfl, fun j hj => by omega⟩
    case round =>
      obtain ⟨k, hk, rfl, hd⟩ := hrel
      by_cases hlt : k < s.size
      · have HB : Hid ((s[k]'hlt).toNat = byte s k) := byte_get s k hlt
        by_cases hb : 48 ≤ byte s k ∧ byte s k ≤ 57
        · have b1 : (48 : Int) ≤ ((s[k]'hlt).toNat : Int) := by have := HB.out; omega
          have b2 : ((s[k]'hlt).toNat : Int) ≤ 57 := by have := HB.out; omega
          go_wp2
          go_round
          case rel => exact ⟨k + 1, by omega, by go_num, fun j hj => by
            by_cases e : j = k
            · subst e; exact hb
            · exact hd j (by omega)⟩
          case measure => simp [intOf]; omega
        · have HN : Hid (¬ Canon s.data.toList) := fun hc => hb (allDig_at hc.2.1 k hlt)
          rcases (show ((s[k]'hlt).toNat : Int) < 48 ∨ ((48 : Int) ≤ ((s[k]'hlt).toNat : Int) ∧ (57 : Int) < ((s[k]'hlt).toNat : Int)) from by have := HB.out; omega) with b1 | ⟨b1, b2⟩
          all_goals
            clear hb
            go_wp2
            go_ret
            exact ⟨_, rfl, rfl, ⟨fun h => absurd h (by simp), fun h => absurd h HN.out⟩⟩
      · have HA : Hid (AllDig s.data.toList) := allDig_of (fun j hj => hd j (by omega))
        have HB : Hid ((s[0]'h0).toNat = byte s 0) := byte_get s 0 h0
        clear hd
        by_cases h1 : s.size = 1
        · have e1 : ((s.size : Int) == 1) = true := beq_iff_eq.2 (by omega)
          have HC : Hid (Canon s.data.toList) := ⟨ne_nil h0, HA.out, .inl (by rw [len_data]; exact h1)⟩
          clear h1
          go_wp2
          go_ret
          exact ⟨_, rfl, rfl, ⟨fun _ => HC.out, fun _ => rfl⟩⟩
        · have e1 : ((s.size : Int) == 1) = false := beq_eq_false_iff_ne.2 (by omega)
          by_cases h2 : byte s 0 = 48
          · have e2 : (((s[0]'h0).toNat : Int) != 48) = false := by have := HB.out; simp; omega
            have HC : Hid (¬ Canon s.data.toList) := fun hc => by
              rcases hc.2.2 with h3 | h3
              · rw [len_data] at h3; omega
              · rw [head_byte] at h3; exact h3 h2
            clear h1 h2
            go_wp2
            go_ret
            exact ⟨_, rfl, rfl, ⟨fun h => absurd h (by simp), fun h => absurd h HC.out⟩⟩
          · have e2 : (((s[0]'h0).toNat : Int) != 48) = true := by have := HB.out; rw [bne_iff_ne]; omega
            have HC : Hid (Canon s.data.toList) := ⟨ne_nil h0, HA.out, .inr (by rw [head_byte]; exact h2)⟩
            clear h1 h2
            go_wp2
            go_ret
            exact ⟨_, rfl, rfl, ⟨fun _ => HC.out, fun _ => rfl⟩⟩
  · have hz : ((s.size : Int) == 0) = true := beq_iff_eq.2 (by omega)
    have HC : Hid (¬ Canon s.data.toList) := fun hc => hc.1 (List.eq_nil_of_length_eq_zero (by rw [len_data]; omega))
    go_enter Tryd.func7, Tryd.ntmps7
    go_wp2
    go_ret
    exact ⟨_, rfl, rfl, ⟨fun h => absurd h (by simp), fun h => absurd h HC.out⟩⟩

/-- What the first k bytes spell. -/
theorem dval_take_succ (s : ByteArray) (k : Nat) (hk : k < s.size) : dval 0 (s.data.toList.take (k + 1)) = dval 0 (s.data.toList.take k) * 10 + (byte s k - 48) := by
  have h' : k < s.data.toList.length := by rw [len_data]; exact hk
  rw [List.take_succ_eq_append_getElem h', dval_append, dval_cons, dval_nil]
  unfold byte
  rw [getD_get _ _ h']
theorem dval_take_le (l : List UInt8) (k : Nat) : dval 0 (l.take k) ≤ dval 0 l := by
  have h : dval 0 l = dval (dval 0 (l.take k)) (l.drop k) := by rw [← dval_append, List.take_append_drop]
  rw [h]
  exact dval_ge_acc _ _

theorem ret_int {k : IntKind} {a b : Int} (h : a = b) : Ending.returned (.int k a) = .returned (.int k b) := by rw [h]

set_option maxHeartbeats 400000 in
theorem value_any (s : ByteArray) (hs : s.size ≤ 1048576) (ha : AllDig s.data.toList) (hv : dval 0 s.data.toList < 18446744073709551616) (w : World) :
    Calls Tryd.prog 9 #[.string s] w fun e w' => e = .returned (.int .u64 (dval 0 s.data.toList : Nat)) ∧ w' = w := by
  go_enter Tryd.func9, Tryd.ntmps9
  go_wp2
  go_loop [3, 4] (fun v i => ∃ k m : Nat, k ≤ s.size ∧ i = .int .i64 k ∧ v = .int .u64 m ∧ m = dval 0 (s.data.toList.take k)) (fun _ i => s.size - (intOf i).toNat)
  case atStart => exact ⟨0, 0, Nat.zero_le _, rfl, rfl, by rw [List.take_zero, dval_nil]⟩
  case round =>
    obtain ⟨k, m, hk, rfl, rfl, hm⟩ := hrel
    by_cases hlt : k < s.size
    · have hb := allDig_at ha k hlt
      have HB : Hid ((s[k]'hlt).toNat = byte s k) := byte_get s k hlt
      have b1 : (48 : Int) ≤ ((s[k]'hlt).toNat : Int) := by have := HB.out; omega
      have b2 : ((s[k]'hlt).toNat : Int) ≤ 57 := by have := HB.out; omega
      have HN : Hid (dval 0 (s.data.toList.take (k + 1)) = m * 10 + ((s[k]'hlt).toNat - 48)) := by show _ = _; rw [dval_take_succ s k hlt, ← hm, HB.out]
      have h1 := dval_take_le s.data.toList (k + 1)
      have b3 : (m : Int) * 10 + (((s[k]'hlt).toNat : Int) - 48) < 18446744073709551616 := by have := HN.out; omega
      clear hm h1 hb
      go_wp2
      go_round
      case rel => exact ⟨k + 1, _, by omega, by go_num, by rw [HN.out, show ((m * 10 + ((s[k]'hlt).toNat - 48) : Nat) : Int) = (m : Int) * 10 + (((s[k]'hlt).toNat : Int) - 48) from by omega], rfl⟩
      case measure => simp [intOf]; omega
    · have HM : Hid (m = dval 0 s.data.toList) := by rw [List.take_of_length_le (by rw [len_data]; omega)] at hm; exact hm
      clear hm
      go_wp2
      go_ret
      exact ⟨ret_int (by rw [← HM.out]), rfl⟩

def FitsPost (s : ByteArray) (w : World) (e : Ending) (w' : World) : Prop := ∃ r : Bool, e = .returned (.bool r) ∧ Below w.heap.size w w' ∧ (r = true ↔ dval 0 s.data.toList < 18446744073709551616)

theorem most_get (k : Nat) (h : k < (⟨#[49, 56, 52, 52, 54, 55, 52, 52, 48, 55, 51, 55, 48, 57, 53, 53, 49, 54, 49, 53]⟩ : ByteArray).size) : ((⟨#[49, 56, 52, 52, 54, 55, 52, 52, 48, 55, 51, 55, 48, 57, 53, 53, 49, 54, 49, 53]⟩ : ByteArray)[k]'h) = most.getD k 0 := by
  have h' : k < most.length := h
  rw [getD_get most k h']
  rfl
theorem byte_getD (s : ByteArray) (j : Nat) (h : j < s.size) : s[j]'h = s.data.toList.getD j 0 := by
  have h' : j < s.data.toList.length := by rw [len_data]; exact h
  rw [getD_get _ _ h', Array.getElem_toList]
  rfl
theorem most_len : most.length = 20 := by decide

set_option maxHeartbeats 1000000 in
theorem fits_any (s : ByteArray) (hs : s.size ≤ 1048576) (hc : Canon s.data.toList) (w : World) : Calls Tryd.prog 8 #[.string s] w fun e w' => FitsPost s w e w' := by
  by_cases h1 : s.size < 20
  · have HF : Hid (dval 0 s.data.toList < 18446744073709551616) := short_fits hc.2.1 (by rw [len_data]; exact h1)
    go_enter Tryd.func8, Tryd.ntmps8
    go_wp2
    go_ret
    exact ⟨_, rfl, Below.refl _ _, ⟨fun _ => HF.out, fun _ => rfl⟩⟩
  by_cases h2 : 20 < s.size
  · have HF : Hid (¬ dval 0 s.data.toList < 18446744073709551616) := long_not hc (by rw [len_data]; exact h2)
    clear h1
    go_enter Tryd.func8, Tryd.ntmps8
    go_wp2
    go_ret
    exact ⟨_, rfl, Below.refl _ _, ⟨fun h => absurd h (by simp), fun h => absurd h HF.out⟩⟩
  have h20 : s.size = 20 := by omega
  have H20 : Hid (s.size = 20) := h20
  have l1 : ¬ (s.size : Int) < 20 := by omega
  have l2 : ¬ (20 : Int) < s.size := by omega
  clear h1 h2 h20
  go_enter Tryd.func8, Tryd.ntmps8
  go_wp2
  go_loopw [3] (fun i wr => ∃ k : Nat, k ≤ 20 ∧ i = .int .i64 k ∧ Below w.heap.size w wr ∧ ∀ j, j < k → s.data.toList.getD j 0 = most.getD j 0) (fun i _ => 20 - (intOf i).toNat)
  case atStart => exact ⟨0, by omega, rfl, Below.refl _ _, fun j hj => by omega⟩
  case round =>
    obtain ⟨k, hk, rfl, bel, hp⟩ := hrel
    by_cases hlt : k < 20
    · have hks : k < s.size := by have := H20.out; omega
      have hkm : k < (⟨#[49, 56, 52, 52, 54, 55, 52, 52, 48, 55, 51, 55, 48, 57, 53, 53, 49, 54, 49, 53]⟩ : ByteArray).size := hlt
      have HS : Hid (s[k]'hks = s.data.toList.getD k 0) := byte_getD s k hks
      have HM : Hid ((⟨#[49, 56, 52, 52, 54, 55, 52, 52, 48, 55, 51, 55, 48, 57, 53, 53, 49, 54, 49, 53]⟩ : ByteArray)[k]'hkm = most.getD k 0) := most_get k hkm
      have HL : Hid (s.data.toList.length = most.length) := by show _ = _; rw [len_data, H20.out, most_len]
      by_cases he : s.data.toList.getD k 0 = most.getD k 0
      · have t1 : (((s[k]'hks).toNat : Int) != (((⟨#[49, 56, 52, 52, 54, 55, 52, 52, 48, 55, 51, 55, 48, 57, 53, 53, 49, 54, 49, 53]⟩ : ByteArray)[k]'hkm).toNat : Int)) = false := by rw [HS.out, HM.out, he]; simp
        have HP : Hid (∀ j, j < k + 1 → s.data.toList.getD j 0 = most.getD j 0) := fun j hj => by
          by_cases e : j = k
          · subst e; exact he
          · exact hp j (by omega)
        clear hp he
        go_wp2
        go_region
        go_wp2
        go_roundw
        case rel => exact ⟨k + 1, by omega, by go_num, bel.drew, HP.out⟩
        case measure => simp [intOf]; omega
      · have hne : (s.data.toList.getD k 0).toNat ≠ (most.getD k 0).toNat := fun e => he (UInt8.toNat_inj.1 e)
        have t1 : (((s[k]'hks).toNat : Int) != (((⟨#[49, 56, 52, 52, 54, 55, 52, 52, 48, 55, 51, 55, 48, 57, 53, 53, 49, 54, 49, 53]⟩ : ByteArray)[k]'hkm).toNat : Int)) = true := by rw [HS.out, HM.out, bne_iff_ne]; omega
        by_cases hlt2 : (s.data.toList.getD k 0).toNat < (most.getD k 0).toNat
        · have t2 : ((s[k]'hks).toNat : Int) < (((⟨#[49, 56, 52, 52, 54, 55, 52, 52, 48, 55, 51, 55, 48, 57, 53, 53, 49, 54, 49, 53]⟩ : ByteArray)[k]'hkm).toNat : Int) := by rw [HS.out, HM.out]; omega
          have HF : Hid (dval 0 s.data.toList < 18446744073709551616) := by
            have := lex_lt hc.2.1 most_dig HL.out k (by rw [HL.out, most_len]; exact hlt) hp hlt2 0
            rw [most_val] at this
            show _ < _
            omega
          clear hp he hne hlt2
          go_wp2
          go_region
          go_wp2
          go_region
          go_wp2
          go_ret
          exact ⟨_, rfl, bel.drew.drew, ⟨fun _ => HF.out, fun _ => rfl⟩⟩
        · have t2 : ¬ ((s[k]'hks).toNat : Int) < (((⟨#[49, 56, 52, 52, 54, 55, 52, 52, 48, 55, 51, 55, 48, 57, 53, 53, 49, 54, 49, 53]⟩ : ByteArray)[k]'hkm).toNat : Int) := by rw [HS.out, HM.out]; omega
          have HF : Hid (¬ dval 0 s.data.toList < 18446744073709551616) := by
            have := lex_lt most_dig hc.2.1 HL.out.symm k (by rw [most_len]; exact hlt) (fun j hj => (hp j hj).symm) (by omega) 0
            rw [most_val] at this
            show ¬ _
            omega
          clear hp he hne hlt2
          go_wp2
          go_region
          go_wp2
          go_region
          go_wp2
          go_ret
          exact ⟨_, rfl, bel.drew.drew, ⟨fun h => absurd h (by have := t2; simp; omega), fun h => absurd h HF.out⟩⟩
    · have HF : Hid (dval 0 s.data.toList < 18446744073709551616) := by
        have e : s.data.toList = most := same_list (by rw [len_data, H20.out, most_len]) (fun j hj => hp j (by rw [len_data, H20.out] at hj; omega))
        show _ < _
        rw [e, most_val]
        omega
      clear hp
      go_wp2
      go_ret
      exact ⟨_, rfl, bel, ⟨fun _ => HF.out, fun _ => rfl⟩⟩

end Go.Proofs.Qxb6602223aDoor
