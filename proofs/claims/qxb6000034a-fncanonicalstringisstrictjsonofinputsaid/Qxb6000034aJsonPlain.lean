/-
  THE CANONICAL SPELLING OF BYTES IN A JSON STRING: plain lists of numbers; no Go in sight.
-/
namespace Go.Proofs.Qxb6000034a

/-- A lower-case hex digit. -/
def hx (d : Nat) : Nat := if d < 10 then 48 + d else 87 + d

/-- The one spelling of byte c. -/
def enc (c : Nat) : List Nat :=
  if c = 34 ∨ c = 92 then [92, c] else if c = 8 then [92, 98] else if c = 12 then [92, 102] else if c = 10 then [92, 110] else if c = 13 then [92, 114] else if c = 9 then [92, 116]
  else if c < 32 then [92, 117, 48, 48, hx (c / 16), hx (c % 16)] else [c]

def encAll (l : List Nat) : List Nat := l.flatMap enc

/-- The whole literal. -/
def lit (l : List Nat) : List Nat := 34 :: (encAll l ++ [34])

theorem enc_len (c : Nat) : 1 ≤ (enc c).length ∧ (enc c).length ≤ 6 := by
  unfold enc
  repeat' split
  all_goals simp

theorem encAll_nil : encAll [] = [] := by unfold encAll; rw [List.flatMap_nil]
theorem encAll_append (a b : List Nat) : encAll (a ++ b) = encAll a ++ encAll b := by unfold encAll; rw [List.flatMap_append]
theorem encAll_one (c : Nat) : encAll [c] = enc c := by unfold encAll; rw [List.flatMap_cons, List.flatMap_nil, List.append_nil]

theorem take_snoc (l : List Nat) (k : Nat) (hk : k < l.length) : l.take (k + 1) = l.take k ++ [l.getD k 0] := by
  rw [List.take_succ_eq_append_getElem hk, List.getD_eq_getElem?_getD, List.getElem?_eq_getElem hk]
  rfl

theorem encAll_succ (l : List Nat) (k : Nat) (hk : k < l.length) : encAll (l.take (k + 1)) = encAll (l.take k) ++ enc (l.getD k 0) := by
  rw [take_snoc l k hk, encAll_append, encAll_one]

theorem encAll_len (l : List Nat) : (encAll l).length ≤ 6 * l.length := by
  induction l with
  | nil => rw [encAll_nil]; simp
  | cons c r ih =>
    have h := enc_len c
    have e : encAll (c :: r) = enc c ++ encAll r := by unfold encAll; rw [List.flatMap_cons]
    rw [e, List.length_append, List.length_cons]
    omega

theorem lit_len (l : List Nat) : (lit l).length = (encAll l).length + 2 := by unfold lit; simp

theorem lit_split (l : List Nat) (k : Nat) (hk : k < l.length) : lit l = (34 :: encAll (l.take k)) ++ (enc (l.getD k 0) ++ (encAll (l.drop (k + 1)) ++ [34])) := by
  have e : encAll l = encAll (l.take k) ++ (enc (l.getD k 0) ++ encAll (l.drop (k + 1))) := by
    have h1 : l = l.take (k + 1) ++ l.drop (k + 1) := (List.take_append_drop _ _).symm
    rw [← List.append_assoc, ← encAll_succ l k hk, ← encAll_append, ← h1]
  unfold lit
  rw [e]
  simp

/-- Where the walk stands ahead of byte k. -/
def pos (l : List Nat) (k : Nat) : Nat := 1 + (encAll (l.take k)).length

theorem pos_zero (l : List Nat) : pos l 0 = 1 := by unfold pos; rw [List.take_zero, encAll_nil]; rfl
theorem pos_succ (l : List Nat) (k : Nat) (hk : k < l.length) : pos l (k + 1) = pos l k + (enc (l.getD k 0)).length := by
  unfold pos; rw [encAll_succ l k hk, List.length_append]; omega
theorem pos_end (l : List Nat) : pos l l.length + 1 = (lit l).length := by unfold pos; rw [List.take_length, lit_len]; omega

theorem pos_next (l : List Nat) (k : Nat) (hk : k < l.length) : pos l k + (enc (l.getD k 0)).length + 1 ≤ (lit l).length := by
  have h := congrArg List.length (lit_split l k hk)
  simp only [List.length_append, List.length_cons, List.length_nil] at h
  unfold pos
  omega

theorem lit_at (l : List Nat) (k : Nat) (hk : k < l.length) (t : Nat) (ht : t < (enc (l.getD k 0)).length) : (lit l).getD (pos l k + t) 0 = (enc (l.getD k 0)).getD t 0 := by
  rw [lit_split l k hk]
  have e : pos l k = (34 :: encAll (l.take k)).length := by unfold pos; rw [List.length_cons]; omega
  rw [e]
  generalize enc (l.getD k 0) = E at ht ⊢
  simp only [List.getD_eq_getElem?_getD]
  rw [List.getElem?_append_right (by omega), show (34 :: encAll (List.take k l)).length + t - (34 :: encAll (List.take k l)).length = t from by omega, List.getElem?_append_left ht]

theorem lit_first (l : List Nat) : (lit l).getD 0 0 = 34 := rfl
theorem lit_last (l : List Nat) : (lit l).getD ((lit l).length - 1) 0 = 34 := by
  rw [lit_len]
  unfold lit
  rw [show (encAll l).length + 2 - 1 = (encAll l).length + 1 from by omega, List.getD_cons_succ]
  simp [List.getD_eq_getElem?_getD]

end Go.Proofs.Qxb6000034a
