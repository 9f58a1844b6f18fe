/-
  THE WALK OF strictDecode ON A CANONICAL LITERAL; of lowerHexDigit.
-/
import Derived.Test.Qxb6000034aAppend2
namespace Go.Proofs.Qxb6000034a
open Go.RowKit

set_option maxHeartbeats 400000 in
theorem low_any (d : Nat) (hd : d < 16) (w : World) : Calls Try.prog 21 #[.int .u8 (hx d : Int)] w fun e w' => e = .returned (.tuple #[.int .i64 (d : Int), .bool true]) ∧ w' = w := by
  by_cases h : d < 10
  · obtain ⟨x, hxd⟩ : ∃ x, x = hx d := ⟨_, rfl⟩
    have e : x = 48 + d := by rw [hxd]; unfold hx; rw [if_pos h]
    rw [← hxd]
    subst e
    clear hxd
    have h1 : ((48 + d : Nat) : Int) - 48 = (d : Int) := by omega
    go_enter Try.func21, Try.ntmps21
    go_wp2
    go_ret2
    exact ⟨by simp; omega, rfl⟩
  · obtain ⟨x, hxd⟩ : ∃ x, x = hx d := ⟨_, rfl⟩
    have e : x = 87 + d := by rw [hxd]; unfold hx; rw [if_neg h]
    rw [← hxd]
    subst e
    clear hxd
    go_enter Try.func21, Try.ntmps21
    go_wp2
    go_ret2
    exact ⟨by simp; omega, rfl⟩

/-- The post: the bytes that were spelt, and true. -/
def DecPost (L : List Nat) (w : World) (e : Ending) (w' : World) : Prop := ∃ v', e = .returned (.tuple #[v', .bool true]) ∧ Own w' w.heap.size v' L ∧ Below w.heap.size w w'

theorem own_made (w : World) (n : Nat) (hn : n ≤ maxLen) : Own (w.alloc (.cells (madeCells #[.int .u8 0] n) 5)) w.heap.size (.slice (some ⟨w.heap.size, 0, none⟩) 0 n) [] :=
  World.ownsRow_made w _ n (Nat.le_refl _) hn (by rw [size_madeCells, Nat.mul_one])

set_option maxRecDepth 100000 in
set_option maxHeartbeats 2000000 in
theorem decode_lit (b off cap n : Nat) (L : List Nat) (w : World) (hn : n = (lit L).length) (hm : L.length ≤ 1048576) (hL : ∀ i, i < L.length → L.getD i 0 < 256) (_hcap : n ≤ cap) (hb : b < w.heap.size)
    (hc : ∀ i, i < n → w.cell? ⟨b, off + i, none⟩ = some (bv ((lit L).getD i 0))) :
    Calls Try.prog 12 #[.slice (some ⟨b, off, none⟩) n cap] w fun e w' => DecPost L w e w' := by
  have HN : Hid (n = (lit L).length) := hn
  have hn2 : 2 ≤ n := by rw [hn, lit_len]; omega
  have hn3 : n ≤ 10000000 := by have := encAll_len L; rw [hn, lit_len]; omega
  have c0 : w.cell? ⟨b, off, none⟩ = some (.int .u8 34) := hc 0 (by omega)
  have cl : w.cell? ⟨b, off + (n - 1), none⟩ = some (.int .u8 34) := by
    have := hc (n - 1) (by omega)
    rw [HN.out, lit_last, ← HN.out] at this
    exact this
  have hmk : ∀ w, (Instr.makeSlice 22 (.int .i64 0) (.int .i64 (n : Int))).run Try.prog w = .ok (.slice (some ⟨w.heap.size, 0, none⟩) 0 n) (w.alloc (.cells (madeCells #[.int .u8 0] n) 5)) := fun w => by
    obtain ⟨i0, hi, hz0, hz1, hz2⟩ := info_parts Try.info5
    have h := run_make (P := Try.prog) w 22 5 i0 (.int .u8 0) Try.underlying22 hi hz0 .i64 .i64 0 (n : Int) (by omega) (by omega) (by rw [hz2]; omega) (by omega)
    rw [hz1] at h
    simp only [Int.toNat_zero, Int.toNat_natCast, Nat.mul_one] at h
    exact h
  have HC : Hid (∀ i, i < n → w.cell? ⟨b, off + i, none⟩ = some (bv ((lit L).getD i 0))) := hc
  clear hn hc
  go_enter Try.func12, Try.ntmps12
  go_wp2
  go_loopw [5, 6] (fun x i wr => ∃ k p : Nat, k ≤ L.length ∧ i = .int .i64 (p : Int) ∧ p = pos L k ∧ Own wr w.heap.size x (L.take k) ∧ Below w.heap.size w wr) (fun _ i _ => n - (intOf i).toNat)
  case atStart => exact ⟨0, 1, Nat.zero_le _, rfl, (pos_zero L).symm, by rw [List.take_zero]; exact own_made w n (by unfold maxLen; omega), (Below.refl _ _).alloc (Nat.le_refl _) _⟩
  case round =>
    obtain ⟨k, p, hk, rfl, hp, own, belr⟩ := hrel
    have hbr : w.heap.size ≤ wr.heap.size := belr.size
    have htk : (L.take k).length ≤ 1048576 := Nat.le_trans (List.length_take_le' _ _) hm
    clear hmk c0 cl
    by_cases hlt : k < L.length
    · obtain ⟨c, hce⟩ : ∃ c, c = L.getD k 0 := ⟨_, rfl⟩
      have hc256 : c < 256 := by rw [hce]; exact hL k hlt
      have nx : p + (enc c).length + 1 ≤ n := by rw [hp, hce, HN.out]; exact pos_next L k hlt
      have ps : pos L (k + 1) = p + (enc c).length := by rw [hp, hce]; exact pos_succ L k hlt
      have at0 : ∀ t, t < (enc c).length → wr.cell? ⟨b, off + (p + t), none⟩ = some (bv ((enc c).getD t 0)) := fun t ht => by
        have h1 := HC.out (p + t) (by omega)
        rw [belr.cell (by exact hb), h1, hp, lit_at L k hlt t (by rw [← hce]; exact ht), ← hce]
      have HT : Hid (L.take (k + 1) = L.take k ++ [c]) := by show _ = _; rw [hce]; exact take_snoc L k hlt
      clear hL hp hce
      by_cases c34 : c = 34
      · subst c34
        have e0 := at0 0 (by decide)
        have e1 := at0 1 (by decide)
        rw [show (enc 34).getD 0 0 = 92 from rfl] at e0
        rw [show (enc 34).getD 1 0 = 34 from rfl] at e1
        have hnx : p + 3 ≤ n := nx
        have HP : Hid (pos L (k + 1) = p + 2) := ps
        have c0 : wr.cell? ⟨b, off + p, none⟩ = some (.int .u8 92) := e0
        have c1 : wr.cell? ⟨b, off + (p + 1), none⟩ = some (.int .u8 34) := e1
        clear at0 nx ps e0 e1
        go_wp2_with (at_builtin; refine wpList_app _ rfl _ _ rfl w.heap.size u5 (L.take k) rfl (own.alloc _) ⟨wr.heap.size, 0, none⟩ 1 [34] rfl (new_one _ _) (by simp; omega) (by simp; omega) ?_)
        intro v2 w2 own2 bel2
        rw [← HT.out] at own2
        have belB : Below w.heap.size w w2 := (belr.alloc hbr _).trans bel2
        clear bel2 own
        go_wp2
        go_roundw
        case rel => exact ⟨k + 1, p + 2, by omega, by go_num, HP.out.symm, own2, belB⟩
        case measure => simp [intOf]; omega
      by_cases c92 : c = 92
      · subst c92
        have e0 := at0 0 (by decide)
        have e1 := at0 1 (by decide)
        rw [show (enc 92).getD 0 0 = 92 from rfl] at e0
        rw [show (enc 92).getD 1 0 = 92 from rfl] at e1
        have hnx : p + 3 ≤ n := nx
        have HP : Hid (pos L (k + 1) = p + 2) := ps
        have c0 : wr.cell? ⟨b, off + p, none⟩ = some (.int .u8 92) := e0
        have c1 : wr.cell? ⟨b, off + (p + 1), none⟩ = some (.int .u8 92) := e1
        clear at0 nx ps e0 e1
        go_wp2_with (at_builtin; refine wpList_app _ rfl _ _ rfl w.heap.size u5 (L.take k) rfl (own.alloc _) ⟨wr.heap.size, 0, none⟩ 1 [92] rfl (new_one _ _) (by simp; omega) (by simp; omega) ?_)
        intro v2 w2 own2 bel2
        rw [← HT.out] at own2
        have belB : Below w.heap.size w w2 := (belr.alloc hbr _).trans bel2
        clear bel2 own
        go_wp2
        go_roundw
        case rel => exact ⟨k + 1, p + 2, by omega, by go_num, HP.out.symm, own2, belB⟩
        case measure => simp [intOf]; omega
      by_cases c8 : c = 8
      · subst c8
        have e0 := at0 0 (by decide)
        have e1 := at0 1 (by decide)
        rw [show (enc 8).getD 0 0 = 92 from rfl] at e0
        rw [show (enc 8).getD 1 0 = 98 from rfl] at e1
        have hnx : p + 3 ≤ n := nx
        have HP : Hid (pos L (k + 1) = p + 2) := ps
        have c0 : wr.cell? ⟨b, off + p, none⟩ = some (.int .u8 92) := e0
        have c1 : wr.cell? ⟨b, off + (p + 1), none⟩ = some (.int .u8 98) := e1
        clear at0 nx ps e0 e1
        go_wp2_with (at_builtin; refine wpList_app _ rfl _ _ rfl w.heap.size u5 (L.take k) rfl (own.alloc _) ⟨wr.heap.size, 0, none⟩ 1 [8] rfl (new_one _ _) (by simp; omega) (by simp; omega) ?_)
        intro v2 w2 own2 bel2
        rw [← HT.out] at own2
        have belB : Below w.heap.size w w2 := (belr.alloc hbr _).trans bel2
        clear bel2 own
        go_wp2
        go_roundw
        case rel => exact ⟨k + 1, p + 2, by omega, by go_num, HP.out.symm, own2, belB⟩
        case measure => simp [intOf]; omega
      by_cases c12 : c = 12
      · subst c12
        have e0 := at0 0 (by decide)
        have e1 := at0 1 (by decide)
        rw [show (enc 12).getD 0 0 = 92 from rfl] at e0
        rw [show (enc 12).getD 1 0 = 102 from rfl] at e1
        have hnx : p + 3 ≤ n := nx
        have HP : Hid (pos L (k + 1) = p + 2) := ps
        have c0 : wr.cell? ⟨b, off + p, none⟩ = some (.int .u8 92) := e0
        have c1 : wr.cell? ⟨b, off + (p + 1), none⟩ = some (.int .u8 102) := e1
        clear at0 nx ps e0 e1
        go_wp2_with (at_builtin; refine wpList_app _ rfl _ _ rfl w.heap.size u5 (L.take k) rfl (own.alloc _) ⟨wr.heap.size, 0, none⟩ 1 [12] rfl (new_one _ _) (by simp; omega) (by simp; omega) ?_)
        intro v2 w2 own2 bel2
        rw [← HT.out] at own2
        have belB : Below w.heap.size w w2 := (belr.alloc hbr _).trans bel2
        clear bel2 own
        go_wp2
        go_roundw
        case rel => exact ⟨k + 1, p + 2, by omega, by go_num, HP.out.symm, own2, belB⟩
        case measure => simp [intOf]; omega
      by_cases c10 : c = 10
      · subst c10
        have e0 := at0 0 (by decide)
        have e1 := at0 1 (by decide)
        rw [show (enc 10).getD 0 0 = 92 from rfl] at e0
        rw [show (enc 10).getD 1 0 = 110 from rfl] at e1
        have hnx : p + 3 ≤ n := nx
        have HP : Hid (pos L (k + 1) = p + 2) := ps
        have c0 : wr.cell? ⟨b, off + p, none⟩ = some (.int .u8 92) := e0
        have c1 : wr.cell? ⟨b, off + (p + 1), none⟩ = some (.int .u8 110) := e1
        clear at0 nx ps e0 e1
        go_wp2_with (at_builtin; refine wpList_app _ rfl _ _ rfl w.heap.size u5 (L.take k) rfl (own.alloc _) ⟨wr.heap.size, 0, none⟩ 1 [10] rfl (new_one _ _) (by simp; omega) (by simp; omega) ?_)
        intro v2 w2 own2 bel2
        rw [← HT.out] at own2
        have belB : Below w.heap.size w w2 := (belr.alloc hbr _).trans bel2
        clear bel2 own
        go_wp2
        go_roundw
        case rel => exact ⟨k + 1, p + 2, by omega, by go_num, HP.out.symm, own2, belB⟩
        case measure => simp [intOf]; omega
      by_cases c13 : c = 13
      · subst c13
        have e0 := at0 0 (by decide)
        have e1 := at0 1 (by decide)
        rw [show (enc 13).getD 0 0 = 92 from rfl] at e0
        rw [show (enc 13).getD 1 0 = 114 from rfl] at e1
        have hnx : p + 3 ≤ n := nx
        have HP : Hid (pos L (k + 1) = p + 2) := ps
        have c0 : wr.cell? ⟨b, off + p, none⟩ = some (.int .u8 92) := e0
        have c1 : wr.cell? ⟨b, off + (p + 1), none⟩ = some (.int .u8 114) := e1
        clear at0 nx ps e0 e1
        go_wp2_with (at_builtin; refine wpList_app _ rfl _ _ rfl w.heap.size u5 (L.take k) rfl (own.alloc _) ⟨wr.heap.size, 0, none⟩ 1 [13] rfl (new_one _ _) (by simp; omega) (by simp; omega) ?_)
        intro v2 w2 own2 bel2
        rw [← HT.out] at own2
        have belB : Below w.heap.size w w2 := (belr.alloc hbr _).trans bel2
        clear bel2 own
        go_wp2
        go_roundw
        case rel => exact ⟨k + 1, p + 2, by omega, by go_num, HP.out.symm, own2, belB⟩
        case measure => simp [intOf]; omega
      by_cases c9 : c = 9
      · subst c9
        have e0 := at0 0 (by decide)
        have e1 := at0 1 (by decide)
        rw [show (enc 9).getD 0 0 = 92 from rfl] at e0
        rw [show (enc 9).getD 1 0 = 116 from rfl] at e1
        have hnx : p + 3 ≤ n := nx
        have HP : Hid (pos L (k + 1) = p + 2) := ps
        have c0 : wr.cell? ⟨b, off + p, none⟩ = some (.int .u8 92) := e0
        have c1 : wr.cell? ⟨b, off + (p + 1), none⟩ = some (.int .u8 116) := e1
        clear at0 nx ps e0 e1
        go_wp2_with (at_builtin; refine wpList_app _ rfl _ _ rfl w.heap.size u5 (L.take k) rfl (own.alloc _) ⟨wr.heap.size, 0, none⟩ 1 [9] rfl (new_one _ _) (by simp; omega) (by simp; omega) ?_)
        intro v2 w2 own2 bel2
        rw [← HT.out] at own2
        have belB : Below w.heap.size w w2 := (belr.alloc hbr _).trans bel2
        clear bel2 own
        go_wp2
        go_roundw
        case rel => exact ⟨k + 1, p + 2, by omega, by go_num, HP.out.symm, own2, belB⟩
        case measure => simp [intOf]; omega
      by_cases c32 : c < 32
      · obtain ⟨q, hq⟩ : ∃ q, q = c / 16 := ⟨_, rfl⟩
        obtain ⟨d, hd⟩ : ∃ d, d = c % 16 := ⟨_, rfl⟩
        have he : enc c = [92, 117, 48, 48, hx q, hx d] := by
          unfold enc
          rw [if_neg (by omega), if_neg c8, if_neg c12, if_neg c10, if_neg c13, if_neg c9, if_pos c32, hq, hd]
        rw [he] at at0 nx ps
        have r0 : wr.cell? ⟨b, off + p, none⟩ = some (.int .u8 92) := at0 0 (by simp)
        have r1 : wr.cell? ⟨b, off + (p + 1), none⟩ = some (.int .u8 117) := at0 1 (by simp)
        have r2 : wr.cell? ⟨b, off + (p + 2), none⟩ = some (.int .u8 48) := at0 2 (by simp)
        have r3 : wr.cell? ⟨b, off + (p + 3), none⟩ = some (.int .u8 48) := at0 3 (by simp)
        have r4 : wr.cell? ⟨b, off + (p + 4), none⟩ = some (.int .u8 (hx q : Int)) := at0 4 (by simp)
        have r5 : wr.cell? ⟨b, off + (p + 5), none⟩ = some (.int .u8 (hx d : Int)) := at0 5 (by simp)
        have hnx : p + 7 ≤ n := nx
        have HP : Hid (pos L (k + 1) = p + 6) := ps
        have q2 : q < 16 := by omega
        have d2 : d < 16 := by omega
        have hv : (q : Int) * 16 + (d : Int) = (c : Int) := by omega
        have n8 : ((c : Int) == 8) = false := beq_eq_false_iff_ne.2 (by omega)
        have n9 : ((c : Int) == 9) = false := beq_eq_false_iff_ne.2 (by omega)
        have n10 : ((c : Int) == 10) = false := beq_eq_false_iff_ne.2 (by omega)
        have n12 : ((c : Int) == 12) = false := beq_eq_false_iff_ne.2 (by omega)
        have n13 : ((c : Int) == 13) = false := beq_eq_false_iff_ne.2 (by omega)
        clear at0 nx ps he c34 c92 c8 c12 c10 c13 c9 hq hd
        go_wp2_with fail
        refine (low_any q q2 _).mono ?_
        rintro e w1 ⟨rfl, rfl⟩
        go_wp2_with fail
        refine (low_any d d2 _).mono ?_
        rintro e w1 ⟨rfl, rfl⟩
        go_wp2_with (at_builtin; refine wpList_app _ rfl _ _ rfl w.heap.size u5 (L.take k) rfl (own.alloc _) ⟨_, 0, none⟩ 1 [c] rfl (new_one _ _) (by simp; omega) (by simp; omega) ?_)
        intro v2 w2 own2 bel2
        rw [← HT.out] at own2
        have belB : Below w.heap.size w w2 := (belr.alloc hbr _).trans bel2
        clear bel2 own
        go_wp2
        go_roundw
        case rel => exact ⟨k + 1, p + 6, by omega, by go_num, HP.out.symm, own2, belB⟩
        case measure => simp [intOf]; omega
      · have he : enc c = [c] := by
          unfold enc
          rw [if_neg (by omega), if_neg c8, if_neg c12, if_neg c10, if_neg c13, if_neg c9, if_neg c32]
        rw [he] at at0 nx ps
        have r0 : wr.cell? ⟨b, off + p, none⟩ = some (.int .u8 (c : Int)) := at0 0 (by simp)
        have hnx : p + 2 ≤ n := nx
        have HP : Hid (pos L (k + 1) = p + 1) := ps
        have n34 : ((c : Int) == 34) = false := beq_eq_false_iff_ne.2 (by omega)
        have n92 : ((c : Int) != 92) = true := by rw [bne_iff_ne]; omega
        have n32 : ¬ (c : Int) < 32 := by omega
        clear at0 nx ps he c34 c92 c8 c12 c10 c13 c9 c32
        go_wp2_with (at_builtin; refine wpList_app _ rfl _ _ rfl w.heap.size u5 (L.take k) rfl (own.alloc _) ⟨wr.heap.size, 0, none⟩ 1 [c] rfl (new_one _ _) (by simp; omega) (by simp; omega) ?_)
        intro v2 w2 own2 bel2
        rw [← HT.out] at own2
        have belB : Below w.heap.size w w2 := (belr.alloc hbr _).trans bel2
        clear bel2 own
        go_wp2
        go_roundw
        case rel => exact ⟨k + 1, p + 1, by omega, by go_num, HP.out.symm, own2, belB⟩
        case measure => simp [intOf]; omega
    · obtain rfl : k = L.length := by omega
      have hpn : p + 1 = n := by rw [hp, HN.out]; exact pos_end L
      rw [List.take_length] at own
      have hpi : ¬ (p : Int) < (n : Int) - 1 := by omega
      clear hL hp hpn
      go_wp2
      go_ret2
      exact ⟨_, rfl, own, belr⟩

end Go.Proofs.Qxb6000034a
