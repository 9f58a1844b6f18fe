/-
  A PARENT, A SLASH AND A NUMERAL, JOINED: the last slash, and what lies on both sides of it. No Go in sight.
-/
import Derived.Test.Qxb6602223aDoorPlain
import Derived.Lib.LastIndexByte
namespace Go.Proofs.Qxb6602223aDoor
open Go.Lib

def joined (s t : ByteArray) : ByteArray := s ++ ⟨#[47]⟩ ++ t

theorem joined_data (s t : ByteArray) : (joined s t).data = s.data ++ #[47] ++ t.data := by
  unfold joined
  simp [ByteArray.data_append]

theorem joined_size (s t : ByteArray) : (joined s t).size = s.size + 1 + t.size := by
  show (joined s t).data.size = s.data.size + 1 + t.data.size
  rw [joined_data]
  simp

theorem arr_mid (a b : Array UInt8) : ((a ++ #[47] ++ b)[a.size]!).toNat = 47 := by
  rw [Array.getElem!_eq_getD, Array.getD_eq_getD_getElem?, Array.append_assoc, Array.getElem?_append_right (Nat.le_refl _), Nat.sub_self]
  rw [Array.getElem?_append_left (show 0 < (#[47] : Array UInt8).size from by decide)]
  rfl

theorem arr_right (a b : Array UInt8) (k : Nat) (hk : k < b.size) : (a ++ #[47] ++ b)[a.size + 1 + k]! ∈ b.toList := by
  have hs : (a ++ #[(47 : UInt8)]).size = a.size + 1 := by simp
  rw [Array.getElem!_eq_getD, Array.getD_eq_getD_getElem?, Array.getElem?_append_right (by omega), hs, show a.size + 1 + k - (a.size + 1) = k from by omega, Array.getElem?_eq_getElem hk]
  simp

theorem arr_name (a b : Array UInt8) : (a ++ #[47] ++ b).extract (a.size + 1) (a.size + 1 + b.size) = b := by
  have hs : (a ++ #[(47 : UInt8)]).toList.length = a.size + 1 := by simp
  apply Array.ext'
  rw [Array.toList_extract, List.extract_eq_take_drop, Array.toList_append, ← hs, List.drop_left, hs, show a.size + 1 + b.size - (a.size + 1) = b.toList.length from by simp, List.take_length]

theorem arr_parent (a b : Array UInt8) : (a ++ #[47] ++ b).extract 0 a.size = a := by
  apply Array.ext'
  rw [Array.toList_extract]
  simp [List.extract_eq_take_drop]

theorem joined_mid (s t : ByteArray) : ((joined s t).data[s.size]!).toNat = 47 := by
  rw [joined_data]
  exact arr_mid s.data t.data

theorem joined_right (s t : ByteArray) (k : Nat) (hk : k < t.size) : ((joined s t).data[s.size + 1 + k]!) ∈ t.data.toList := by
  rw [joined_data]
  exact arr_right s.data t.data k hk

theorem joined_last (s t : ByteArray) (ht : AllDig t.data.toList) : lastIndexByte (joined s t) 47 = (s.size : Int) := by
  rcases lastIndexByte_spec (joined s t) 47 with ⟨_, hn⟩ | ⟨i, hi, he, hc, hn⟩
  · have := hn s.size (by rw [joined_size]; omega)
    rw [joined_mid] at this
    exact absurd rfl this
  · rw [he]
    rcases Nat.lt_trichotomy i s.size with h1 | h1 | h1
    · have := hn s.size h1 (by rw [joined_size]; omega)
      rw [joined_mid] at this
      exact absurd rfl this
    · rw [h1]
    · rw [joined_size] at hi
      have h2 := joined_right s t (i - s.size - 1) (by omega)
      rw [show s.size + 1 + (i - s.size - 1) = i from by omega] at h2
      have := ht _ h2
      omega

theorem joined_name (s t : ByteArray) : (joined s t).extract (s.size + 1) (joined s t).size = t := by
  apply ByteArray.ext
  rw [joined_size, ByteArray.data_extract, joined_data]
  exact arr_name s.data t.data

theorem joined_parent (s t : ByteArray) : (joined s t).extract 0 s.size = s := by
  apply ByteArray.ext
  rw [ByteArray.data_extract, joined_data]
  exact arr_parent s.data t.data

end Go.Proofs.Qxb6602223aDoor
