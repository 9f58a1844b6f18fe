/-
  THE WALK OF appendCanonicalString AND OF ITS SHIM.
-/
import Derived.Test.Qxb6000034aOwn
import Derived.Test.Qxb6000034aJsonPlain
import Derived.Laws.BitsAllLaws
namespace Go.Proofs.Qxb6000034a
open Go.RowKit

/-- The post: the slice that comes back holds what was there and behind it the literal. -/
def AppPost (base : Nat) (l0 l : List Nat) (w : World) (e : Ending) (w' : World) : Prop := ∃ v', e = .returned v' ∧ Own w' base v' (l0 ++ lit l) ∧ Below base w w'

theorem new_list (w : World) (cs : List Nat) (j : Nat) (u : Value) (h : (cs.map bv)[j]? = some u) : (w.alloc (.cells (cs.map bv).toArray 5)).cell? ((⟨w.heap.size, 0, none⟩ : Addr).add j) = some u := by
  rw [add_plain', Nat.zero_add, cell_of_row _ w.heap.size j (cs.map bv).toArray 5 (0, 0) (Deep.blk_alloc_new _ _)]
  simpa using h
theorem new_one (w : World) (c : Nat) (j : Nat) (u : Value) (h : ([c].map bv)[j]? = some u) : (w.alloc (.cells #[.int .u8 (c : Int)] 5)).cell? ((⟨w.heap.size, 0, none⟩ : Addr).add j) = some u := new_list w [c] j u h
theorem new_two (w : World) (c d : Nat) (j : Nat) (u : Value) (h : ([c, d].map bv)[j]? = some u) : (w.alloc (.cells #[.int .u8 (c : Int), .int .u8 (d : Int)] 5)).cell? ((⟨w.heap.size, 0, none⟩ : Addr).add j) = some u := new_list w [c, d] j u h

theorem new_six (w : World) (c1 c2 c3 c4 c5 c6 : Nat) (j : Nat) (u : Value) (h : ([c1, c2, c3, c4, c5, c6].map bv)[j]? = some u) :
    (w.alloc (.cells #[.int .u8 (c1 : Int), .int .u8 (c2 : Int), .int .u8 (c3 : Int), .int .u8 (c4 : Int), .int .u8 (c5 : Int), .int .u8 (c6 : Int)] 5)).drew.cell? ((⟨w.heap.size, 0, none⟩ : Addr).add j) = some u := new_list w [c1, c2, c3, c4, c5, c6] j u h

theorem lo_hx (d : Nat) (h : d < (⟨#[48, 49, 50, 51, 52, 53, 54, 55, 56, 57, 97, 98, 99, 100, 101, 102]⟩ : ByteArray).size) : ((⟨#[48, 49, 50, 51, 52, 53, 54, 55, 56, 57, 97, 98, 99, 100, 101, 102]⟩ : ByteArray)[d]'h).toNat = hx d := by
  have h' : d < 16 := h
  have key : ∀ i : Fin 16, ((⟨#[48, 49, 50, 51, 52, 53, 54, 55, 56, 57, 97, 98, 99, 100, 101, 102]⟩ : ByteArray)[i.val]'i.isLt).toNat = hx i.val := by decide +kernel
  exact key ⟨d, h'⟩
theorem and15 (c : Nat) (h : c < 256) : bits .and .u8 (c : Int) 15 = ((c % 16 : Nat) : Int) := by
  have h1 := u8_and_nat c 15 h (by omega)
  have h2 := Nat.and_two_pow_sub_one_eq_mod c 4
  have h3 : (2 : Nat) ^ 4 - 1 = 15 := rfl
  have h4 : (2 : Nat) ^ 4 = 16 := rfl
  rw [h3, h4] at h2
  rw [h2] at h1
  exact h1

/-- What the rounds have laid. -/
def laidBy (l0 L : List Nat) (k : Nat) : List Nat := l0 ++ (34 :: encAll (L.take k))
theorem laidBy_zero (l0 L : List Nat) : laidBy l0 L 0 = l0 ++ [34] := by unfold laidBy; rw [List.take_zero, encAll_nil]
theorem laidBy_succ (l0 L : List Nat) (k : Nat) (hk : k < L.length) : laidBy l0 L (k + 1) = laidBy l0 L k ++ enc (L.getD k 0) := by unfold laidBy; rw [encAll_succ L k hk]; simp
theorem laidBy_end (l0 L : List Nat) : laidBy l0 L L.length ++ [34] = l0 ++ lit L := by unfold laidBy lit; rw [List.take_length]; simp
theorem laidBy_len (l0 L : List Nat) (k : Nat) (h0 : l0.length ≤ 1048576) (hL : L.length ≤ 1048576) : (laidBy l0 L k).length ≤ 10000000 := by
  unfold laidBy
  have h1 := encAll_len (L.take k)
  have h2 : (L.take k).length ≤ L.length := List.length_take_le' _ _
  simp only [List.length_append, List.length_cons]
  omega

set_option maxHeartbeats 1000000 in
theorem app_some (base b m cm : Nat) (v : Value) (l0 : List Nat) (z : Nat → Nat) (w : World) (hm0 : 0 < m) (hm : m ≤ 1048576) (hl0 : l0.length ≤ 1048576) (hz : ∀ i, z i < 256) (hown : Own w base v l0) (hbase : base ≤ w.heap.size)
    (hb : b < base) (hrow : w.rowIs b 5 m (fun i => .int .u8 (z i : Int))) :
    Calls Try.prog 20 #[v, .slice (some ⟨b, 0, none⟩) m cm] w fun e w' => AppPost base l0 ((List.range m).map z) w e w' := by
  obtain ⟨L, hL⟩ : ∃ L, L = (List.range m).map z := ⟨_, rfl⟩
  rw [← hL]
  have HL : Hid (L = (List.range m).map z) := hL
  clear hL
  go_enter Try.func20, Try.ntmps20
  go_wp2_with (at_builtin; refine wpList_app _ rfl _ _ rfl base v l0 rfl (hown.alloc _) ⟨w.heap.size, 0, none⟩ 1 [34] rfl (new_one _ _) (by simp; omega) (by simp; omega) ?_)
  intro v1 w1 hown1 bel1
  have belA : Below base w w1 := ((Below.refl _ _).alloc hbase _).trans bel1
  clear bel1 hown
  have HN : Hid (L.length = m) := by show _ = _; rw [HL.out]; simp
  go_wp2
  go_loopw [0, 12] (fun x i wr => ∃ k : Nat, k ≤ m ∧ i = .int .i64 (k : Int) ∧ Own wr base x (laidBy l0 L k) ∧ Below base w wr) (fun _ i _ => m - (intOf i).toNat)
  case atStart => exact ⟨0, Nat.zero_le _, rfl, by rw [laidBy_zero]; exact hown1, belA⟩
  case round =>
    obtain ⟨k, hk, rfl, own, belr⟩ := hrel
    have hlen := laidBy_len l0 L k hl0 (by rw [HN.out]; exact hm)
    have hbr : base ≤ wr.heap.size := Nat.le_trans hbase belr.size
    clear hown1 belA
    by_cases hlt : k < m
    · have hkL : k < L.length := by rw [HN.out]; exact hlt
      have hLk : L.getD k 0 = z k := by rw [HL.out]; simp [hlt]
      have ck : wr.cell? ⟨b, k, none⟩ = some (.int .u8 (z k : Int)) := by rw [belr.cell (by exact hb), hrow.cell hlt]
      have hzk := hz k
      clear hz hrow
      by_cases c34 : z k = 34
      · rw [c34] at ck
        have HE : Hid (laidBy l0 L (k + 1) = laidBy l0 L k ++ [92, 34]) := by show _ = _; rw [laidBy_succ l0 L k hkL, hLk, c34]; rfl
        clear c34
        go_wp2_with (at_builtin; refine wpList_app _ rfl _ _ rfl base u0 (laidBy l0 L k) rfl (own.alloc _) ⟨wr.heap.size, 0, none⟩ 2 [92, 34] rfl (new_two _ _ _) (by simp; omega) (by simp; omega) ?_)
        intro v2 w2 own2 bel2
        rw [← HE.out] at own2
        have belB : Below base w w2 := (belr.alloc hbr _).trans bel2
        clear bel2 own
        go_wp2
        go_roundw
        case rel => exact ⟨k + 1, by omega, by go_num, own2, belB⟩
        case measure => simp [intOf]; omega
      by_cases c92 : z k = 92
      · rw [c92] at ck
        have HE : Hid (laidBy l0 L (k + 1) = laidBy l0 L k ++ [92, 92]) := by show _ = _; rw [laidBy_succ l0 L k hkL, hLk, c92]; rfl
        clear c92
        go_wp2_with (at_builtin; refine wpList_app _ rfl _ _ rfl base u0 (laidBy l0 L k) rfl (own.alloc _) ⟨wr.heap.size, 0, none⟩ 2 [92, 92] rfl (new_two _ _ _) (by simp; omega) (by simp; omega) ?_)
        intro v2 w2 own2 bel2
        rw [← HE.out] at own2
        have belB : Below base w w2 := (belr.alloc hbr _).trans bel2
        clear bel2 own
        go_wp2
        go_roundw
        case rel => exact ⟨k + 1, by omega, by go_num, own2, belB⟩
        case measure => simp [intOf]; omega
      by_cases c8 : z k = 8
      · rw [c8] at ck
        have HE : Hid (laidBy l0 L (k + 1) = laidBy l0 L k ++ [92, 98]) := by show _ = _; rw [laidBy_succ l0 L k hkL, hLk, c8]; rfl
        clear c8
        go_wp2_with (at_builtin; refine wpList_app _ rfl _ _ rfl base u0 (laidBy l0 L k) rfl (own.alloc _) ⟨wr.heap.size, 0, none⟩ 2 [92, 98] rfl (new_two _ _ _) (by simp; omega) (by simp; omega) ?_)
        intro v2 w2 own2 bel2
        rw [← HE.out] at own2
        have belB : Below base w w2 := (belr.alloc hbr _).trans bel2
        clear bel2 own
        go_wp2
        go_roundw
        case rel => exact ⟨k + 1, by omega, by go_num, own2, belB⟩
        case measure => simp [intOf]; omega
      by_cases c12 : z k = 12
      · rw [c12] at ck
        have HE : Hid (laidBy l0 L (k + 1) = laidBy l0 L k ++ [92, 102]) := by show _ = _; rw [laidBy_succ l0 L k hkL, hLk, c12]; rfl
        clear c12
        go_wp2_with (at_builtin; refine wpList_app _ rfl _ _ rfl base u0 (laidBy l0 L k) rfl (own.alloc _) ⟨wr.heap.size, 0, none⟩ 2 [92, 102] rfl (new_two _ _ _) (by simp; omega) (by simp; omega) ?_)
        intro v2 w2 own2 bel2
        rw [← HE.out] at own2
        have belB : Below base w w2 := (belr.alloc hbr _).trans bel2
        clear bel2 own
        go_wp2
        go_roundw
        case rel => exact ⟨k + 1, by omega, by go_num, own2, belB⟩
        case measure => simp [intOf]; omega
      by_cases c10 : z k = 10
      · rw [c10] at ck
        have HE : Hid (laidBy l0 L (k + 1) = laidBy l0 L k ++ [92, 110]) := by show _ = _; rw [laidBy_succ l0 L k hkL, hLk, c10]; rfl
        clear c10
        go_wp2_with (at_builtin; refine wpList_app _ rfl _ _ rfl base u0 (laidBy l0 L k) rfl (own.alloc _) ⟨wr.heap.size, 0, none⟩ 2 [92, 110] rfl (new_two _ _ _) (by simp; omega) (by simp; omega) ?_)
        intro v2 w2 own2 bel2
        rw [← HE.out] at own2
        have belB : Below base w w2 := (belr.alloc hbr _).trans bel2
        clear bel2 own
        go_wp2
        go_roundw
        case rel => exact ⟨k + 1, by omega, by go_num, own2, belB⟩
        case measure => simp [intOf]; omega
      by_cases c13 : z k = 13
      · rw [c13] at ck
        have HE : Hid (laidBy l0 L (k + 1) = laidBy l0 L k ++ [92, 114]) := by show _ = _; rw [laidBy_succ l0 L k hkL, hLk, c13]; rfl
        clear c13
        go_wp2_with (at_builtin; refine wpList_app _ rfl _ _ rfl base u0 (laidBy l0 L k) rfl (own.alloc _) ⟨wr.heap.size, 0, none⟩ 2 [92, 114] rfl (new_two _ _ _) (by simp; omega) (by simp; omega) ?_)
        intro v2 w2 own2 bel2
        rw [← HE.out] at own2
        have belB : Below base w w2 := (belr.alloc hbr _).trans bel2
        clear bel2 own
        go_wp2
        go_roundw
        case rel => exact ⟨k + 1, by omega, by go_num, own2, belB⟩
        case measure => simp [intOf]; omega
      by_cases c9 : z k = 9
      · rw [c9] at ck
        have HE : Hid (laidBy l0 L (k + 1) = laidBy l0 L k ++ [92, 116]) := by show _ = _; rw [laidBy_succ l0 L k hkL, hLk, c9]; rfl
        clear c9
        go_wp2_with (at_builtin; refine wpList_app _ rfl _ _ rfl base u0 (laidBy l0 L k) rfl (own.alloc _) ⟨wr.heap.size, 0, none⟩ 2 [92, 116] rfl (new_two _ _ _) (by simp; omega) (by simp; omega) ?_)
        intro v2 w2 own2 bel2
        rw [← HE.out] at own2
        have belB : Below base w w2 := (belr.alloc hbr _).trans bel2
        clear bel2 own
        go_wp2
        go_roundw
        case rel => exact ⟨k + 1, by omega, by go_num, own2, belB⟩
        case measure => simp [intOf]; omega
      have n34 : ((z k : Int) == 34) = false := beq_eq_false_iff_ne.2 (by omega)
      have n92 : ((z k : Int) == 92) = false := beq_eq_false_iff_ne.2 (by omega)
      have n8 : ((z k : Int) == 8) = false := beq_eq_false_iff_ne.2 (by omega)
      have n12 : ((z k : Int) == 12) = false := beq_eq_false_iff_ne.2 (by omega)
      have n10 : ((z k : Int) == 10) = false := beq_eq_false_iff_ne.2 (by omega)
      have n13 : ((z k : Int) == 13) = false := beq_eq_false_iff_ne.2 (by omega)
      have n9 : ((z k : Int) == 9) = false := beq_eq_false_iff_ne.2 (by omega)
      by_cases c32 : z k < 32
      · obtain ⟨q, hq⟩ : ∃ q, q = z k / 16 := ⟨_, rfl⟩
        obtain ⟨d, hd⟩ : ∃ d, d = z k % 16 := ⟨_, rfl⟩
        have q1 : (z k : Int) / 16 = (q : Int) := by omega
        have d1 : bits .and .u8 (z k : Int) 15 = (d : Int) := by rw [hd]; exact and15 (z k) (by omega)
        have q2 : q < 16 := by omega
        have d2 : d < 16 := by omega
        have q4 : (q : Int) < 16 := by omega
        have d4 : (d : Int) < 16 := by omega
        have q3 : q < (⟨#[48, 49, 50, 51, 52, 53, 54, 55, 56, 57, 97, 98, 99, 100, 101, 102]⟩ : ByteArray).size := q2
        have d3 : d < (⟨#[48, 49, 50, 51, 52, 53, 54, 55, 56, 57, 97, 98, 99, 100, 101, 102]⟩ : ByteArray).size := d2
        have HE : Hid (laidBy l0 L (k + 1) = laidBy l0 L k ++ [92, 117, 48, 48, ((⟨#[48, 49, 50, 51, 52, 53, 54, 55, 56, 57, 97, 98, 99, 100, 101, 102]⟩ : ByteArray)[q]'q3).toNat, ((⟨#[48, 49, 50, 51, 52, 53, 54, 55, 56, 57, 97, 98, 99, 100, 101, 102]⟩ : ByteArray)[d]'d3).toNat]) := by
          show _ = _
          rw [laidBy_succ l0 L k hkL, hLk, lo_hx, lo_hx, hq, hd]
          unfold enc
          rw [if_neg (by omega), if_neg c8, if_neg c12, if_neg c10, if_neg c13, if_neg c9, if_pos c32]
        clear c34 c92 c8 c12 c10 c13 c9 hLk hq hd
        go_wp2
        go_region_law (refine step_app rfl (.tmp 19) (.tmp 26) rfl base u0 (laidBy l0 L k) rfl ((own.alloc _).drew) ⟨wr.heap.size, 0, none⟩ 6 [92, 117, 48, 48, ((⟨#[48, 49, 50, 51, 52, 53, 54, 55, 56, 57, 97, 98, 99, 100, 101, 102]⟩ : ByteArray)[q]'q3).toNat, ((⟨#[48, 49, 50, 51, 52, 53, 54, 55, 56, 57, 97, 98, 99, 100, 101, 102]⟩ : ByteArray)[d]'d3).toNat] rfl (new_six wr _ _ _ _ _ _) (by simp; omega) (by simp; omega) ?_; intro v2 w2 own2 bel2; rw [← HE.out] at own2)
        all_goals
          have belB : Below base w w2 := (belr.alloc hbr _).drew.trans bel2
          clear own bel2
          go_wp2
          go_roundw
          case rel => exact ⟨k + 1, by omega, by go_num, own2, belB⟩
          case measure => simp [intOf]; omega
      · have HE : Hid (laidBy l0 L (k + 1) = laidBy l0 L k ++ [z k]) := by
          show _ = _
          rw [laidBy_succ l0 L k hkL, hLk]
          unfold enc
          rw [if_neg (by omega), if_neg c8, if_neg c12, if_neg c10, if_neg c13, if_neg c9, if_neg c32]
        clear c34 c92 c8 c12 c10 c13 c9 hLk
        go_wp2_with (at_builtin; refine wpList_app _ rfl _ _ rfl base u0 (laidBy l0 L k) rfl (own.alloc _) ⟨wr.heap.size, 0, none⟩ 1 [z k] rfl (new_one _ _) (by simp; omega) (by simp; omega) ?_)
        intro v2 w2 own2 bel2
        rw [← HE.out] at own2
        have belB : Below base w w2 := (belr.alloc hbr _).trans bel2
        clear bel2 own
        go_wp2
        go_roundw
        case rel => exact ⟨k + 1, by omega, by go_num, own2, belB⟩
        case measure => simp [intOf]; omega
    · obtain rfl : m = k := by omega
      have HE : Hid (laidBy l0 L m ++ [34] = l0 ++ lit L) := by
        have := laidBy_end l0 L
        rw [HN.out] at this
        exact this
      clear hz hrow
      go_wp2_with (at_builtin; refine wpList_app _ rfl _ _ rfl base u0 (laidBy l0 L m) rfl (own.alloc _) ⟨wr.heap.size, 0, none⟩ 1 [34] rfl (new_one _ _) (by simp; omega) (by simp; omega) ?_)
      intro v2 w2 own2 bel2
      rw [HE.out] at own2
      have belB : Below base w w2 := (belr.alloc hbr _).trans bel2
      clear bel2 own
      go_wp2
      go_ret
      exact ⟨_, rfl, own2, belB⟩

end Go.Proofs.Qxb6000034a
