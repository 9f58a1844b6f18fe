/-
  THE PLAIN LAWS of decimal numerals: no Go in sight. 'Lib.parseUintB' is the shelf's function for strconv.ParseUint at base 10.
-/
import Derived.Lib.ParseIntB
namespace Go.Proofs.Qxb6602223aDoor
open Go.Lib

/-- What the digits of l spell behind acc. -/
def dstep (a : Nat) (c : UInt8) : Nat := a * 10 + (c.toNat - 48)
def dval (acc : Nat) (l : List UInt8) : Nat := l.foldl dstep acc
theorem dval_nil (acc : Nat) : dval acc [] = acc := by unfold dval; rw [List.foldl_nil]
theorem dval_cons (acc : Nat) (c : UInt8) (r : List UInt8) : dval acc (c :: r) = dval (acc * 10 + (c.toNat - 48)) r := by unfold dval; rw [List.foldl_cons]; rfl

def AllDig (l : List UInt8) : Prop := ∀ c ∈ l, 48 ≤ c.toNat ∧ c.toNat ≤ 57

theorem AllDig.tail {c : UInt8} {r : List UInt8} (h : AllDig (c :: r)) : AllDig r := fun d hd => h d (List.mem_cons_of_mem _ hd)
theorem AllDig.head {c : UInt8} {r : List UInt8} (h : AllDig (c :: r)) : 48 ≤ c.toNat ∧ c.toNat ≤ 57 := h c (by simp)

theorem arith (acc q d v : Nat) : (acc * 10 + d) * q + v = acc * (q * 10) + ((0 * 10 + d) * q + v) := by
  have e : acc * 10 * q = acc * (q * 10) := by rw [Nat.mul_assoc, Nat.mul_comm 10 q]
  rw [Nat.zero_mul, Nat.zero_add, Nat.add_mul, e, Nat.add_assoc]

theorem dval_acc (l : List UInt8) : ∀ acc, dval acc l = acc * 10 ^ l.length + dval 0 l := by
  induction l with
  | nil => intro acc; rw [dval_nil, dval_nil, List.length_nil, Nat.pow_zero, Nat.mul_one, Nat.add_zero]
  | cons c r ih =>
    intro acc
    rw [dval_cons, dval_cons, List.length_cons, Nat.pow_succ, ih (acc * 10 + (c.toNat - 48)), ih (0 * 10 + (c.toNat - 48))]
    exact arith _ _ _ _

theorem dval_lt {l : List UInt8} (h : AllDig l) : dval 0 l < 10 ^ l.length := by
  induction l with
  | nil => rw [dval_nil, List.length_nil]; omega
  | cons c r ih =>
    have h1 := ih h.tail
    have h2 := h.head
    rw [dval_cons, List.length_cons, Nat.pow_succ, dval_acc]
    have h3 : (0 * 10 + (c.toNat - 48)) * 10 ^ r.length ≤ 9 * 10 ^ r.length := Nat.mul_le_mul_right _ (by omega)
    omega

theorem dval_ge_acc (l : List UInt8) (acc : Nat) : acc ≤ dval acc l := by
  rw [dval_acc]
  have := Nat.mul_le_mul_left acc (Nat.one_le_pow l.length 10 (by omega))
  omega

theorem dval_append (a b : List UInt8) : ∀ acc, dval acc (a ++ b) = dval (dval acc a) b := by
  induction a with
  | nil => intro acc; rw [dval_nil, List.nil_append]
  | cons c r ih => intro acc; rw [List.cons_append, dval_cons, dval_cons]; exact ih _

/-- A numeral within the size parses to what it spells. -/
theorem parse_ok (M : Nat) (hM : M ≤ 18446744073709551615) : ∀ (l : List UInt8) (acc : Nat), AllDig l → dval acc l ≤ M → parseUintM M acc l = .ok (dval acc l) := by
  intro l
  induction l with
  | nil => intro acc _ _; rw [parseUintM, dval_nil]
  | cons c r ih =>
    intro acc h hle
    have h2 := h.head
    rw [dval_cons] at hle ⊢
    have h3 := dval_ge_acc r (acc * 10 + (c.toNat - 48))
    rw [parseUintM, if_pos h2, if_neg (by omega), if_neg (by omega)]
    exact ih _ h.tail hle

/-- A numeral beyond the size does not. -/
theorem parse_big (M : Nat) : ∀ (l : List UInt8) (acc : Nat), M < dval acc l → ∀ u, parseUintM M acc l = .ok u → acc ≤ M → False := by
  intro l
  induction l with
  | nil => intro acc h u _ h2; rw [dval_nil] at h; omega
  | cons c r ih =>
    intro acc h u hu h2
    rw [dval_cons] at h
    rw [parseUintM] at hu
    by_cases hd : 48 ≤ c.toNat ∧ c.toNat ≤ 57
    · rw [if_pos hd] at hu
      by_cases h3 : 1844674407370955162 ≤ acc
      · rw [if_pos h3] at hu; cases hu
      · rw [if_neg h3] at hu
        by_cases h4 : M < acc * 10 + (c.toNat - 48)
        · rw [if_pos h4] at hu; cases hu
        · rw [if_neg h4] at hu
          exact ih _ h u hu (by omega)
    · rw [if_neg hd] at hu; cases hu

/-- What parses is digits. -/
theorem parse_dig (M : Nat) : ∀ (l : List UInt8) (acc u : Nat), parseUintM M acc l = .ok u → AllDig l := by
  intro l
  induction l with
  | nil => intro acc u _ c hc; cases hc
  | cons c r ih =>
    intro acc u hu
    rw [parseUintM] at hu
    by_cases hd : 48 ≤ c.toNat ∧ c.toNat ≤ 57
    · rw [if_pos hd] at hu
      by_cases h3 : 1844674407370955162 ≤ acc
      · rw [if_pos h3] at hu; cases hu
      · rw [if_neg h3] at hu
        by_cases h4 : M < acc * 10 + (c.toNat - 48)
        · rw [if_pos h4] at hu; cases hu
        · rw [if_neg h4] at hu
          have := ih _ _ hu
          intro d hd'
          rcases List.mem_cons.1 hd' with rfl | h5
          · exact hd
          · exact this d h5
    · rw [if_neg hd] at hu; cases hu

/-- No leading nought but in a numeral of one digit. -/
def Lead0 (l : List UInt8) : Prop := 1 < l.length ∧ (l.headD 0).toNat = 48

def Canon (l : List UInt8) : Prop := l ≠ [] ∧ AllDig l ∧ (l.length = 1 ∨ (l.headD 0).toNat ≠ 48)

theorem pow64 : (2 : Nat) ^ 64 - 1 = 18446744073709551615 := by decide

/-- What strconv.ParseUint(.., 10, 64) accepts, no leading nought: just the canonical numerals below 2^64. -/
theorem parse_canon {l : List UInt8} (h : Canon l) (hf : dval 0 l < 18446744073709551616) : parseUintB 64 l = .ok (dval 0 l) := by
  unfold parseUintB
  rw [if_neg h.1, pow64]
  exact parse_ok _ (by omega) l 0 h.2.1 (by omega)

theorem parse_not {l : List UInt8} {u : Nat} (hu : parseUintB 64 l = .ok u) (h : ¬ Lead0 l) : Canon l ∧ dval 0 l < 18446744073709551616 := by
  unfold parseUintB at hu
  by_cases h0 : l = []
  · rw [if_pos h0] at hu; cases hu
  · rw [if_neg h0, pow64] at hu
    refine ⟨⟨h0, parse_dig _ _ _ _ hu, ?_⟩, ?_⟩
    · unfold Lead0 at h
      have : l.length ≠ 0 := by simpa using h0
      omega
    · rcases Nat.lt_or_ge (dval 0 l) 18446744073709551616 with h1 | h1
      · exact h1
      · exact absurd (parse_big _ l 0 (by omega) u hu (by omega)) (by simp)

theorem canon_not_lead {l : List UInt8} (h : Canon l) : ¬ Lead0 l := by
  intro h0
  rcases h.2.2 with h1 | h1
  · have := h0.1; omega
  · exact h1 h0.2

/-- The greatest uint64, digit by digit. -/
def most : List UInt8 := [49, 56, 52, 52, 54, 55, 52, 52, 48, 55, 51, 55, 48, 57, 53, 53, 49, 54, 49, 53]
theorem most_dig : AllDig most := by
  have h : most.all (fun c => decide (48 ≤ c.toNat ∧ c.toNat ≤ 57)) = true := by decide +kernel
  intro c hc
  have := List.all_eq_true.1 h c hc
  simpa using this
theorem most_val : dval 0 most = 18446744073709551615 := by decide +kernel

theorem short_fits {l : List UInt8} (h : AllDig l) (hl : l.length < 20) : dval 0 l < 18446744073709551616 := by
  have h1 := dval_lt h
  have h2 : 10 ^ l.length ≤ 10 ^ 19 := Nat.pow_le_pow_right (by omega) (by omega)
  have h3 : (10 : Nat) ^ 19 = 10000000000000000000 := by decide
  omega

theorem long_not {l : List UInt8} (h : Canon l) (hl : 20 < l.length) : ¬ dval 0 l < 18446744073709551616 := by
  obtain ⟨_, hd, h1⟩ := h
  cases l with
  | nil => simp at hl
  | cons c r =>
    have h2 := hd.head
    simp only [List.length_cons, List.headD_cons] at hl h1
    rw [dval_cons, dval_acc]
    have h3 : 10 ^ 20 ≤ 10 ^ r.length := Nat.pow_le_pow_right (by omega) (by omega)
    have h4 : 1 * 10 ^ r.length ≤ (0 * 10 + (c.toNat - 48)) * 10 ^ r.length := Nat.mul_le_mul_right _ (by omega)
    have h5 : (10 : Nat) ^ 20 = 100000000000000000000 := by decide
    omega

/-- The first place at which two numerals of one length part decides. -/
theorem lex_lt {a b : List UInt8} (ha : AllDig a) (hb : AllDig b) (hl : a.length = b.length) (k : Nat) (hk : k < a.length) (hp : ∀ j, j < k → a.getD j 0 = b.getD j 0) (hlt : (a.getD k 0).toNat < (b.getD k 0).toNat) : ∀ acc, dval acc a < dval acc b := by
  induction a generalizing b k with
  | nil => simp at hk
  | cons x r ih =>
    cases b with
    | nil => simp at hl
    | cons y s =>
      intro acc
      have hx := ha.head
      have hy := hb.head
      simp only [List.length_cons, Nat.add_right_cancel_iff] at hl
      rw [dval_cons, dval_cons]
      cases k with
      | zero =>
        simp only [List.getD_cons_zero] at hlt
        rw [dval_acc r, dval_acc s, hl]
        have h1 := dval_lt ha.tail
        rw [hl] at h1
        have h2 : (acc * 10 + (x.toNat - 48) + 1) * 10 ^ s.length ≤ (acc * 10 + (y.toNat - 48)) * 10 ^ s.length := Nat.mul_le_mul_right _ (by omega)
        rw [Nat.add_mul, Nat.one_mul] at h2
        omega
      | succ k =>
        have h0 := hp 0 (by omega)
        simp only [List.getD_cons_zero] at h0
        subst h0
        exact ih ha.tail hb.tail hl k (by simpa using hk) (fun j hj => by simpa using hp (j + 1) (by omega)) (by simpa using hlt) _

theorem same_list {a b : List UInt8} (hl : a.length = b.length) (hp : ∀ j, j < a.length → a.getD j 0 = b.getD j 0) : a = b := by
  apply List.ext_getElem hl
  intro i h1 h2
  have := hp i h1
  simpa [h1, h2] using this

end Go.Proofs.Qxb6602223aDoor
