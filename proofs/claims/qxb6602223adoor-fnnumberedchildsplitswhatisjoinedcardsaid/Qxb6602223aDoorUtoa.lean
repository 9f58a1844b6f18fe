/-
  THE WALK OF utoa: the decimal digits of a uint64.
-/
import Derived.Test.Qxb6602223aDoorRows
import Derived.Test.Qxb6602223aDoorPlain
import Derived.WalkKit
import Derived.WalkSpells
import Derived.WalkLawsBesides
import Derived.Deep.OwnRows
namespace Go.Proofs.Qxb6602223aDoor
open Go.RowKit

def UtoaPost (N : Nat) (w : World) (e : Ending) (w' : World) : Prop :=
  ∃ s : ByteArray, e = .returned (.string s) ∧ Below w.heap.size w w' ∧ Canon s.data.toList ∧ dval 0 s.data.toList = N ∧ s.size ≤ 20

/-- What holds at the head of each round: k digits, d, have been laid from the end; m is left. -/
structure Dig (N k m : Nat) (d : List UInt8) (g : Nat → Nat) : Prop where
  len : d.length = k
  dig : AllDig d
  val : N = m * 10 ^ k + dval 0 d
  live : k = 0 ∨ 0 < m
  cells : ∀ t, t < k → g (20 - k + t) = (d.getD t 0).toNat

theorem Dig.bound {N k m : Nat} {d : List UInt8} {g : Nat → Nat} (h : Dig N k m d g) (hN : N < 18446744073709551616) : k < 20 := by
  rcases h.live with h0 | h0
  · omega
  · rcases Nat.lt_or_ge k 20 with h1 | h1
    · exact h1
    · have h2 : 10 ^ 20 ≤ 10 ^ k := Nat.pow_le_pow_right (by omega) h1
      have h3 : 1 * 10 ^ k ≤ m * 10 ^ k := Nat.mul_le_mul_right _ h0
      have h4 := h.val
      have h5 : (10 : Nat) ^ 20 = 100000000000000000000 := by decide
      omega

theorem Dig.m_le {N k m : Nat} {d : List UInt8} {g : Nat → Nat} (h : Dig N k m d g) : m ≤ N := by
  have h1 := h.val
  have h2 : m * 1 ≤ m * 10 ^ k := Nat.mul_le_mul_left _ (Nat.one_le_pow _ _ (by omega))
  omega

/-- The digit of m. -/
def digit (m : Nat) : UInt8 := UInt8.ofNat (48 + m % 10)
theorem digit_toNat (m : Nat) : (digit m).toNat = 48 + m % 10 := by
  unfold digit
  rw [UInt8.toNat_ofNat']
  omega

theorem Dig.step {N k m : Nat} {d : List UInt8} {g : Nat → Nat} (h : Dig N k m d g) (hk : k < 20) :
    (digit m :: d).length = k + 1 ∧ AllDig (digit m :: d) ∧ N = (m / 10) * 10 ^ (k + 1) + dval 0 (digit m :: d) ∧
      ∀ t, t < k + 1 → (if 20 - (k + 1) + t = 19 - k then 48 + m % 10 else g (20 - (k + 1) + t)) = ((digit m :: d).getD t 0).toNat := by
  refine ⟨by rw [List.length_cons, h.len], ?_, ?_, ?_⟩
  · intro c hc
    rcases List.mem_cons.1 hc with rfl | h1
    · rw [digit_toNat]; omega
    · exact h.dig c h1
  · rw [dval_cons, dval_acc, h.len, digit_toNat, h.val, Nat.pow_succ]
    generalize 10 ^ k = q
    have e1 : m / 10 * (q * 10) = (m / 10 * 10) * q := by rw [Nat.mul_comm q 10, Nat.mul_assoc]
    have e2 : (0 * 10 + (48 + m % 10 - 48)) = m % 10 := by omega
    have e3 : m * q = (m / 10 * 10) * q + (m % 10) * q := by rw [← Nat.add_mul]; congr 1; omega
    rw [e1, e2, e3, Nat.add_assoc]
  · intro t ht
    cases t with
    | zero => rw [if_pos (by omega), List.getD_cons_zero, digit_toNat]
    | succ t =>
      rw [if_neg (by omega), List.getD_cons_succ, ← h.cells t (by omega)]
      congr 1
      omega

theorem zero_row (w : World) : (w.alloc (.cells #[.int .u8 0, .int .u8 0, .int .u8 0, .int .u8 0, .int .u8 0, .int .u8 0, .int .u8 0, .int .u8 0, .int .u8 0, .int .u8 0, .int .u8 0, .int .u8 0, .int .u8 0, .int .u8 0, .int .u8 0, .int .u8 0, .int .u8 0, .int .u8 0, .int .u8 0, .int .u8 0] 29)).rowIs w.heap.size 29 20 (fun _ => .int .u8 ((0 : Nat) : Int)) := by
  refine ⟨_, Deep.blk_alloc_new _ _, rfl, fun i hi => ?_⟩
  show (Array.replicate 20 (Value.int .u8 0))[i]? = _
  rw [Array.getElem?_replicate, if_pos hi]
  rfl

theorem alen29 : Tryd.prog.arrayLen 29 = 20 := by kernel_rfl
theorem elem29 : Tryd.prog.elem 29 = 5 := by kernel_rfl
theorem und29 : Tryd.prog.underlying 29 = some (.array (Tryd.prog.arrayLen 29) (Tryd.prog.elem 29)) := by kernel_rfl
theorem size5 (w : World) : (sizeOf 5).run Tryd.prog w = .ok 1 w := by kernel_rfl

theorem add_flat (b off i : Nat) : (⟨b, off, none⟩ : Addr).add i = ⟨b, off + i, none⟩ := by unfold Addr.add; split <;> simp_all

theorem slice_buf (B i : Nat) (hi : i < 20) (w : World) : (Instr.sliceAt 29 (.pointer (some ⟨B, 0, none⟩)) (some (.int .i64 i)) none none).run Tryd.prog w = .ok (.slice (some ⟨B, i, none⟩) (20 - i) (20 - i)) w := by
  rw [run_sliceAt_array_l (P := Tryd.prog) w 29 ⟨B, 0, none⟩ und29 .i64 i (by omega) (by rw [alen29]; omega), elem29, size5, alen29]
  simp only [Result.andThen_ok, slicedAt, Int.toNat_natCast]
  rw [if_neg (by omega), add_flat]
  simp

/-- string(buf[i:]): the digits that have been laid. -/
theorem conv_buf {W : World} {B i : Nat} {l : List UInt8} {g : Nat → Nat} (hl : l.length = 20 - i) (row : W.rowIs B 29 20 (fun j => .int .u8 (g j : Int))) (hg : ∀ t, t < l.length → g (i + t) = (l.getD t 0).toNat) :
    (convert 30 9 (.slice (some ⟨B, i, none⟩) (20 - i) (20 - i))).run Tryd.prog W = .ok (.string ⟨l.toArray⟩) W := by
  have h := run_convert_bytes_back (P := Tryd.prog) W 30 9 5 ⟨B, i, none⟩ (20 - i) l Tryd.underlying30 Tryd.underlying5 Tryd.underlying9 (fun j hj => by
    rw [add_flat, row.cell (by omega), hg j hj]
    simp [hj])
  rw [hl] at h
  exact h

set_option maxHeartbeats 400000 in
theorem utoa_any (N : Nat) (hN : N < 18446744073709551616) (w : World) :
    Calls Tryd.prog 12 #[.int .u64 N] w fun e w' => UtoaPost N w e w' := by
  go_enter Tryd.func12, Tryd.ntmps12
  go_wp2
  go_loopw [0, 4] (fun x i wr => ∃ (k m j : Nat) (d : List UInt8) (g : Nat → Nat), x = .int .u64 m ∧ i = .int .i64 j ∧ j + k = 20 ∧ Dig N k m d g ∧ Below w.heap.size w wr ∧ wr.rowIs w.heap.size 29 20 (fun j => .int .u8 (g j : Int))) (fun x _ _ => (intOf x).toNat)
  case atStart => exact ⟨0, N, 20, [], fun _ => 0, rfl, rfl, rfl, ⟨rfl, fun c hc => (by cases hc), by rw [dval_nil]; omega, .inl rfl, fun t ht => by omega⟩, (Below.refl _ _).alloc (Nat.le_refl _) _, zero_row w⟩
  case round =>
    obtain ⟨k, m, j, d, g, rfl, rfl, hj, hd, bel, row⟩ := hrel
    have hk := hd.bound hN
    have hm := hd.m_le
    obtain ⟨i, rfl⟩ : ∃ i, j = i + 1 := ⟨j - 1, by omega⟩
    have cj := row.cell (show i < 20 from by omega)
    have fj := row.frozen i
    have hi : (i : Int) < 20 := by omega
    obtain ⟨s1, s2, s3, s4⟩ := hd.step hk
    have hrow : (wr.setCell ⟨w.heap.size, i, none⟩ (.int .u8 (48 + (m : Int) % 10))).rowIs w.heap.size 29 20 (fun j => .int .u8 ((if j = i then 48 + m % 10 else g j : Nat) : Int)) := by
      refine (row.set i (.int .u8 (48 + (m : Int) % 10))).congr (fun j _ => ?_)
      split
      · rw [show (48 + (m : Int) % 10) = ((48 + m % 10 : Nat) : Int) from by omega]
      · rfl
    have hcells : ∀ t, t < k + 1 → (if i + t = i then 48 + m % 10 else g (i + t)) = ((digit m :: d).getD t 0).toNat := by
      intro t ht
      have := s4 t ht
      rw [show 20 - (k + 1) + t = i + t from by omega, show 19 - k = i from by omega] at this
      exact this
    by_cases h0 : m / 10 = 0
    · have hz : ((m : Int) / 10 == 0) = true := beq_iff_eq.2 (by omega)
      have hsl := slice_buf w.heap.size i (by omega)
      have hcv := conv_buf (l := digit m :: d) (i := i) (by rw [s1]; omega) hrow (fun t ht => hcells t (by rw [← s1]; exact ht))
      have HC : Hid (Canon (digit m :: d)) := by
        refine ⟨by simp, s2, ?_⟩
        rcases hd.live with h1 | h1
        · left; rw [s1]; omega
        · right; rw [List.headD_cons, digit_toNat]; omega
      have HV : Hid (dval 0 (digit m :: d) = N) := by rw [h0, Nat.zero_mul, Nat.zero_add] at s3; exact s3.symm
      clear hcells s4 s3 hd row h0
      go_wp2
      go_ret
      exact ⟨⟨(digit m :: d).toArray⟩, rfl, bel.setCell (Nat.le_refl _) _, HC.out, HV.out, by show (digit m :: d).toArray.size ≤ 20; rw [List.size_toArray, s1]; omega⟩
    · have hz : ((m : Int) / 10 == 0) = false := beq_eq_false_iff_ne.2 (by omega)
      have HD : Hid (Dig N (k + 1) (m / 10) (digit m :: d) (fun j => if j = i then 48 + m % 10 else g j)) :=
        ⟨s1, s2, s3, .inr (by omega), fun t ht => by rw [show 20 - (k + 1) + t = i + t from by omega]; exact hcells t ht⟩
      have h10 : 10 ≤ m := by omega
      clear hcells s4 s3 hd h0
      go_wp2
      go_roundw
      case rel => exact ⟨k + 1, m / 10, i, _, _, by go_num, rfl, by omega, HD.out, bel.setCell (Nat.le_refl _) _, hrow⟩
      case measure => simp [intOf]; omega

end Go.Proofs.Qxb6602223aDoor
