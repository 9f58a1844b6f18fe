/-
  THE WALK OF FnCanonicalStringIsStrictJSONOfInput.
-/
import Derived.Test.Qxb6000034aDecode
namespace Go.Proofs.Qxb6000034a
open Go.RowKit

set_option maxHeartbeats 400000 in
theorem zz8_any (a0 a1 : Option Addr) (n0 c0 n1 c1 : Nat) (w : World) (h0 : n0 ≤ maxLen) (h1 : n1 ≤ maxLen) :
    Calls Try.prog 8 #[.slice a0 n0 c0, .slice a1 n1 c1] w fun e w' => ∃ r : Bool, e = .returned (.bool r) ∧ w' = w := by
  unfold maxLen at h0 h1
  go_enter Try.func8, Try.ntmps8
  go_wp2
  all_goals (go_ret; exact ⟨_, rfl, rfl⟩)

theorem range_getD (z : Nat → Nat) (n i : Nat) (h : i < n) : ((List.range n).map z).getD i 0 = z i := by
  simp [List.getD_eq_getElem?_getD, h]

/-- The bytes of what came back, ahead of the literal and in it. -/
theorem cat_left (z : Nat → Nat) (n i : Nat) (h : i < n) (q : List Nat) : ((List.range n).map z ++ q).getD i 0 = z i := by
  rw [List.getD_eq_getElem?_getD, List.getElem?_append_left (by simpa using h)]
  simp [h]
theorem cat_right (z : Nat → Nat) (n i : Nat) (q : List Nat) : ((List.range n).map z ++ q).getD (n + i) 0 = q.getD i 0 := by
  rw [List.getD_eq_getElem?_getD, List.getElem?_append_right (by simp), List.getD_eq_getElem?_getD]
  simp

theorem own_of_clone {w : World} {ao : Option Addr} {n g : Nat} {f : Nat → Nat} (hn : n ≤ 1048576) (h : (ao = none ∧ n = 0) ∨ (ao = some ⟨g, 0, none⟩ ∧ w.rowIs g 5 n (fun i => .int .u8 (f i : Int)))) : Own w g (.slice ao n n) ((List.range n).map f) := by
  rcases h with ⟨rfl, rfl⟩ | ⟨rfl, r⟩
  · exact own_nil w g
  · exact own_of_row r (Nat.le_refl _) (by unfold maxLen; omega)

/-- A copy stands while what lies below a later block stands. -/
def Copy (W : World) (ao : Option Addr) (n g : Nat) (f : Nat → Nat) : Prop := (ao = none ∧ n = 0) ∨ (ao = some ⟨g, 0, none⟩ ∧ g < W.heap.size ∧ W.rowIs g 5 n (fun i => .int .u8 (f i : Int)))

theorem Copy.later {w w' : World} {ao : Option Addr} {n g B : Nat} {f : Nat → Nat} (h : Copy w ao n g f) (hb : Below B w w') (hB : w.heap.size ≤ B) : Copy w' ao n g f := by
  rcases h with h | ⟨h1, h2, r⟩
  · exact .inl h
  · exact .inr ⟨h1, Nat.lt_of_lt_of_le h2 hb.size, rowIs_later r hb (Nat.lt_of_lt_of_le h2 hB)⟩

/-- A copy that stood at w stands at w'', over two steps of which the second keeps what lay below w's end. -/
theorem Copy.over {w w' w'' : World} {ao : Option Addr} {n g : Nat} {f : Nat → Nat} (h : Copy w ao n g f) (h1 : Below w.heap.size w w') (h2 : Below w.heap.size w' w'') : Copy w'' ao n g f := by
  exact h.later (h1.trans h2) (Nat.le_refl _)

theorem Copy.of {w : World} {ao : Option Addr} {n g : Nat} {f : Nat → Nat} (h : (ao = none ∧ n = 0) ∨ (ao = some ⟨g, 0, none⟩ ∧ w.rowIs g 5 n (fun i => .int .u8 (f i : Int)))) : Copy w ao n g f := by
  rcases h with h | ⟨h1, r⟩
  · exact .inl h
  · exact .inr ⟨h1, r.lt, r⟩
theorem Copy.isIn {w : World} {ao : Option Addr} {n g : Nat} {f : Nat → Nat} (h : Copy w ao n g f) : IsIn w ao n n (fun i => .int .u8 (f i : Int)) := by
  rcases h with h | ⟨h1, _, r⟩
  · exact isIn_of_own (g := g) (.inl h)
  · exact isIn_of_own (.inr ⟨h1, r⟩)
theorem Copy.row {w : World} {ao : Option Addr} {n g : Nat} {f : Nat → Nat} (h : Copy w ao n g f) (hn : 0 < n) : ao = some ⟨g, 0, none⟩ ∧ g < w.heap.size ∧ w.rowIs g 5 n (fun i => .int .u8 (f i : Int)) := by
  rcases h with ⟨_, h⟩ | h
  · omega
  · exact h

set_option maxHeartbeats 2000000 in
theorem json_walk (a0 a1 : Option Addr) (n0 c0 n1 c1 : Nat) (z0 z1 : Nat → Nat) (hz1 : ∀ i, z1 i < 256) (w : World) (h0 : n0 ≤ maxLen) (h1 : n1 ≤ maxLen)
    (i0 : IsIn w a0 n0 c0 (fun i => .int .u8 (z0 i : Int))) (i1 : IsIn w a1 n1 c1 (fun i => .int .u8 (z1 i : Int))) :
    Calls Try.prog 3 #[.slice a0 n0 c0, .slice a1 n1 c1] w fun e w' => LawPost w e w' := by
  go_enter Try.func3, Try.ntmps3
  go_wp2_with fail
  refine (zz8_any a0 a1 n0 c0 n1 c1 w h0 h1).mono ?_
  rintro e w' ⟨r, rfl, rfl⟩
  unfold maxLen at h0 h1
  cases r
  · go_wp2_with fail
    go_ret
    exact ⟨rfl, Below.refl _ _⟩
  by_cases g0 : n0 ≤ 1048576
  case neg =>
    go_wp2_with fail
    go_ret
    exact ⟨rfl, Below.refl _ _⟩
  by_cases g1 : n1 ≤ 1048576
  case neg =>
    go_wp2_with fail
    go_ret
    exact ⟨rfl, Below.refl _ _⟩
  by_cases g2 : n0 + n1 ≤ 1048576
  case neg =>
    go_wp2_with fail
    go_ret
    exact ⟨rfl, Below.refl _ _⟩
  go_wp2_with fail
  refine (cloneOwn_any a0 n0 c0 z0 w' g0 i0).mono ?_
  rintro e w1 ⟨o1, rfl, bel1, d1'⟩
  have d1 := Copy.of d1'
  clear d1'
  go_wp2_with fail
  refine (cloneOwn_any a1 n1 c1 z1 w1 g1 (i1.later bel1)).mono ?_
  rintro e w2 ⟨o2, rfl, bel2, d2'⟩
  have d2 := Copy.of d2'
  have d1b := d1.later bel2 (Nat.le_refl _)
  clear i0 i1 d1 d2'
  go_wp2_with fail
  refine (cloneOwn_any o1 n0 n0 z0 w2 g0 d1b.isIn).mono ?_
  rintro e w3 ⟨o3, rfl, bel3, d3⟩
  have hrow : 0 < n1 → ∃ b, b < w2.heap.size ∧ o2 = some ⟨b, 0, none⟩ ∧ w3.rowIs b 5 n1 (fun i => .int .u8 (z1 i : Int)) := fun hp => by
    obtain ⟨e2, l2, r2⟩ := d2.row hp
    exact ⟨_, l2, e2, rowIs_later r2 bel3 l2⟩
  have HA : Hid (Calls Try.prog 10 #[.slice o3 n0 n0, .slice o2 n1 n1] w3 fun e w' => AppPost w2.heap.size ((List.range n0).map z0) ((List.range n1).map z1) w3 e w') :=
    app_any w2.heap.size n1 n1 o2 (.slice o3 n0 n0) ((List.range n0).map z0) z1 w3 g1 (by simpa using g0) hz1 (own_of_clone g0 d3) bel3.size hrow
  clear hrow d3
  go_wp2_with fail
  refine HA.out.mono ?_
  clear HA
  rintro e w4 ⟨v4, rfl, own4, bel4⟩
  have d1c : Copy w4 o1 n0 w'.heap.size z0 := d1b.over bel3 bel4
  have d2c : Copy w4 o2 n1 w1.heap.size z1 := d2.over bel3 bel4
  have bel34 : Below w'.heap.size w' w4 := ((bel1.trans (bel2.mono bel1.size)).trans (bel3.mono (Nat.le_trans bel1.size bel2.size))).trans (bel4.mono (Nat.le_trans bel1.size bel2.size))
  clear d1b d2 bel1 bel2 bel3 bel4
  obtain ⟨nL, hnL⟩ : ∃ nL, nL = (lit ((List.range n1).map z1)).length := ⟨_, rfl⟩
  have hlen : ((List.range n0).map z0 ++ lit ((List.range n1).map z1)).length = n0 + nL := by rw [List.length_append, hnL]; simp
  have hnL2 : 2 ≤ nL := by rw [hnL, lit_len]; omega
  have hnL3 : nL ≤ 10000000 := by
    have h6 := encAll_len ((List.range n1).map z1)
    rw [List.length_map, List.length_range] at h6
    rw [hnL, lit_len]
    omega
  obtain ⟨g, cp, hv, hbg, hgl, hcap, hcm, hcell⟩ := own4.form (by omega)
  rw [hlen] at hv hcap hcell
  subst hv
  have HnL : Hid (nL = (lit ((List.range n1).map z1)).length) := hnL
  have HC1 : Hid (∀ i, i < n0 → w4.cell? ⟨g, 0 + i, none⟩ = some (.int .u8 (z0 i : Int))) := fun i hi => by
    rw [Nat.zero_add, hcell i (by omega), cat_left z0 n0 i hi]; rfl
  have HC2 : Hid (∀ i, i < nL → w4.cell? ⟨g, n0 + i, none⟩ = some (bv ((lit ((List.range n1).map z1)).getD i 0))) := fun i hi => by
    rw [hcell (n0 + i) (by omega), cat_right]
  have hcm' : cp ≤ 9223372036854775807 := by unfold maxLen at hcm; omega
  clear own4 hlen hnL hcell hcm
  have HE : Hid (Calls Try.prog 11 #[.slice (some ⟨g, 0, none⟩) n0 cp, .slice o1 n0 n0] w4 fun e w'' => LawPost w4 e w'') := by
    refine equal_any (some ⟨g, 0, none⟩) o1 n0 cp n0 z0 w4 (by omega) (fun hp => ?_)
    obtain ⟨e1, l1, r1⟩ := d1c.row hp
    exact ⟨g, 0, w'.heap.size, 0, rfl, e1, hgl, l1, fun i hi => ⟨HC1.out i hi, by rw [Nat.zero_add]; exact r1.cell hi⟩⟩
  clear HC1 d1c
  go_wp2_with fail
  refine HE.out.mono ?_
  clear HE
  rintro e w5 ⟨rfl, bel5⟩
  have HD : Hid (Calls Try.prog 12 #[.slice (some ⟨g, n0, none⟩) nL (cp - n0)] w5 fun e w'' => DecPost ((List.range n1).map z1) w5 e w'') := by
    refine decode_lit g n0 (cp - n0) nL ((List.range n1).map z1) w5 HnL.out (by simpa using g1) (fun i hi => ?_) (by omega) (Nat.lt_of_lt_of_le hgl bel5.size) (fun i hi => by rw [bel5.cell (by exact hgl)]; exact HC2.out i hi)
    rw [range_getD z1 n1 i (by simpa using hi)]
    exact hz1 i
  have d2d : Copy w5 o2 n1 w1.heap.size z1 := d2c.later bel5 (Nat.le_refl _)
  have bel35 : Below w'.heap.size w' w5 := bel34.trans (bel5.mono bel34.size)
  clear HC2 d2c bel34 bel5
  go_wp2_with fail
  refine HD.out.mono ?_
  clear HD
  rintro e w6 ⟨v6, rfl, own6, bel6⟩
  have d2e : Copy w6 o2 n1 w1.heap.size z1 := d2d.later bel6 (Nat.le_refl _)
  have bel36 : Below w'.heap.size w' w6 := bel35.trans (bel6.mono bel35.size)
  have hl1 : ((List.range n1).map z1).length = n1 := by simp
  have HF : Hid (∃ a6 c6, v6 = .slice a6 n1 c6 ∧ Calls Try.prog 11 #[.slice a6 n1 c6, .slice o2 n1 n1] w6 fun e w'' => LawPost w6 e w'') := by
    by_cases hp : 0 < n1
    · obtain ⟨g6, c6, hv, _, l6, _, _, cell6⟩ := own6.form (by rw [hl1]; exact hp)
      rw [hl1] at hv cell6
      refine ⟨_, c6, hv, equal_any (some ⟨g6, 0, none⟩) o2 n1 c6 n1 z1 w6 (by omega) (fun _ => ?_)⟩
      obtain ⟨e2, l2, r2⟩ := d2e.row hp
      exact ⟨g6, 0, w1.heap.size, 0, rfl, e2, l6, l2, fun i hi => ⟨by rw [Nat.zero_add, cell6 i hi, range_getD z1 n1 i hi]; rfl, by rw [Nat.zero_add]; exact r2.cell hi⟩⟩
    · obtain rfl : n1 = 0 := by omega
      obtain ⟨a6, c6, hv⟩ := own6.slice
      exact ⟨a6, c6, hv, equal_any a6 o2 0 c6 0 z1 w6 (by omega) (fun h => absurd h (by omega))⟩
  clear own6 d2d d2e hl1 bel35 bel6
  obtain ⟨a6, c6, hv, HE⟩ := HF.out
  subst hv
  have HG : Hid (Calls Try.prog 11 #[.slice a6 n1 c6, .slice o2 n1 n1] w6 fun e w'' => LawPost w6 e w'') := HE
  clear HE HF
  go_wp2_with fail
  refine HG.out.mono ?_
  clear HG
  rintro e w7 ⟨rfl, bel7⟩
  go_wp2
  go_ret
  exact ⟨rfl, bel36.trans (bel7.mono bel36.size)⟩

end Go.Proofs.Qxb6000034a
