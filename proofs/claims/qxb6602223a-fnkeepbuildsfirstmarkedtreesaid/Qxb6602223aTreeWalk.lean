/-
  THE WALK OF FnKeepBuildsFirstMarkedTree.
-/
import Derived.Test.Qxb6602223aKeep
import Derived.Test.Qxb6602223aRootWalk
import Derived.Test.Qxb6602223aPlain2
namespace Go.Proofs.Qxb6602223a
open Go.RowKit

set_option maxHeartbeats 400000 in
theorem zz4_any (a0 a1 a2 a3 : Option Addr) (n0 c0 n1 c1 n2 c2 n3 c3 : Nat) (w : World) (h0 : n0 ≤ maxLen) (h1 : n1 ≤ maxLen) (h2 : n2 ≤ maxLen) (h3 : n3 ≤ maxLen) :
    Calls Try.prog 6 #[.slice a0 n0 c0, .slice a1 n1 c1, .slice a2 n2 c2, .slice a3 n3 c3] w fun e w' => ∃ r : Bool, e = .returned (.bool r) ∧ w' = w := by
  unfold maxLen at h0 h1 h2 h3
  go_enter Try.func6, Try.ntmps6
  go_wp2
  all_goals (go_ret; exact ⟨_, rfl, rfl⟩)

/-- sameInts of a slice and itself. -/
def SamePost (w : World) (e : Ending) (w' : World) : Prop := e = .returned (.bool true) ∧ Below w.heap.size w w'

set_option maxHeartbeats 400000 in
theorem same_self (ao : Option Addr) (m c : Nat) (z : Nat → Int) (w : World) (hm : m ≤ 1048576) (hrow : 0 < m → ∃ b, ao = some ⟨b, 0, none⟩ ∧ w.rowIs b 3 m (fun i => .int .i64 (z i))) :
    Calls Try.prog 11 #[.slice ao m c, .slice ao m c] w fun e w' => SamePost w e w' := by
  by_cases hm0 : 0 < m
  · obtain ⟨b, rfl, row⟩ := hrow hm0
    clear hrow
    go_enter Try.func11, Try.ntmps11
    go_wp2
    go_loopw [5] (fun i wr => ∃ k : Nat, k ≤ m ∧ i = .int .i64 k ∧ Below w.heap.size w wr) (fun i _ => m - (intOf i).toNat)
    case atStart => exact ⟨0, Nat.zero_le _, rfl, Below.refl _ _⟩
    case round =>
      obtain ⟨k, hk, rfl, bel⟩ := hrel
      by_cases hlt : k < m
      · have ck : wr.cell? ⟨b, k, none⟩ = some (.int .i64 (z k)) := by rw [bel.cell (by exact row.lt), row.cell hlt]
        go_wp2
        go_region
        go_wp2
        go_roundw
        case rel => exact ⟨k + 1, by omega, by go_num, bel.drew⟩
        case measure => simp [intOf]; omega
      · go_wp2
        go_ret
        exact ⟨rfl, bel⟩
  · obtain rfl : m = 0 := by omega
    go_enter Try.func11, Try.ntmps11
    go_wp2
    refine wp_loop_rounds 1 ?_
    rw [rounds_succ]
    go_wp2
    go_ret
    exact ⟨rfl, Below.refl _ _⟩

theorem row_upd {w : World} {b n : Nat} {g : Nat → Int} (h : w.rowIs b 3 n (fun i => .int .i64 (g i))) (i : Nat) (v : Int) : (w.setCell ⟨b, i, none⟩ (.int .i64 v)).rowIs b 3 n (fun j => .int .i64 (upd g i v j)) :=
  rowIs_setv h _ _ _ (fun j _ => by unfold upd; split <;> rfl)

set_option maxHeartbeats 2000000 in
theorem tree_walk (a0 a1 a2 a3 : Option Addr) (n0 c0 n1 c1 m c2 n c3 : Nat) (y0 y1 z : Nat → Int) (mk : Nat → Bool) (w : World) (h0 : n0 ≤ maxLen) (h1 : n1 ≤ maxLen) (h2 : m ≤ maxLen) (h3 : n ≤ maxLen)
    (i0 : IsIn w a0 n0 c0 (fun i => .int .i64 (y0 i))) (i1 : IsIn w a1 n1 c1 (fun i => .int .i64 (y1 i))) (i2 : IsIn w a2 m c2 (fun i => .int .i64 (z i))) (i3 : IsIn w a3 n c3 (fun i => .bool (mk i))) :
    Calls Try.prog 3 #[.slice a0 n0 c0, .slice a1 n1 c1, .slice a2 m c2, .slice a3 n c3] w fun e w' => LawPost w e w' := by
  go_enter Try.func3, Try.ntmps3
  go_wp2_with fail
  refine (zz4_any a0 a1 a2 a3 n0 c0 n1 c1 m c2 n c3 w h0 h1 h2 h3).mono ?_
  rintro e w' ⟨r, rfl, rfl⟩
  unfold maxLen at h0 h1 h2 h3
  cases r
  · go_wp2_with fail
    go_ret
    exact ⟨rfl, Below.refl _ _⟩
  by_cases g0 : n0 ≤ 16384
  case neg =>
    go_wp2_with fail
    go_ret
    exact ⟨rfl, Below.refl _ _⟩
  by_cases g1 : n1 ≤ 16384
  case neg =>
    go_wp2_with fail
    go_ret
    exact ⟨rfl, Below.refl _ _⟩
  by_cases hm : m ≤ 32768
  case neg =>
    go_wp2_with fail
    go_ret
    exact ⟨rfl, Below.refl _ _⟩
  by_cases hn : n ≤ 65536
  case neg =>
    go_wp2_with fail
    go_ret
    exact ⟨rfl, Below.refl _ _⟩
  go_wp2_with fail
  refine (places_any a2 m c2 z n w' (by omega) i2).mono ?_
  rintro e w1 ⟨r, rfl, rfl, hin⟩
  cases r
  · go_wp2_with fail
    go_ret
    exact ⟨rfl, Below.refl _ _⟩
  have hin' := hin rfl
  clear hin
  go_wp2_with fail
  refine (cloneInts_any a0 n0 c0 y0 w1 (by omega) i0).mono ?_
  rintro e x1 ⟨o0, rfl, belx1, _⟩
  go_wp2_with fail
  refine (cloneInts_any a1 n1 c1 y1 x1 (by omega) (i1.later belx1)).mono ?_
  rintro e x2 ⟨o1, rfl, belx2', _⟩
  have belx2 : Below w1.heap.size w1 x2 := belx1.trans (belx2'.mono belx1.size)
  clear belx1 belx2'
  go_wp2_with fail
  refine (cloneInts_any a2 m c2 z x2 (by omega) (i2.later belx2)).mono ?_
  rintro e w2 ⟨ao, rfl, bel2, row2⟩
  have belx3 : Below w1.heap.size w1 w2 := belx2.trans (bel2.mono belx2.size)
  go_wp2_with fail
  refine (cloneBools_any a3 n c3 mk w2 (by omega) (i3.later belx3)).mono ?_
  rintro e w3 ⟨am, rfl, bel3, row3⟩
  have belx4 : Below w1.heap.size w1 w3 := belx3.trans (bel3.mono belx3.size)
  clear belx2 belx3 i0 i1 i2 i3
  go_wp2_with fail
  have hz : 0 < m → ∃ b, b < w3.heap.size ∧ ao = some ⟨b, 0, none⟩ ∧ w3.rowIs b 3 m (fun i => .int .i64 (z i)) := fun hm0 => by
    obtain ⟨e2, r2⟩ := row2 hm0
    exact ⟨x2.heap.size, Nat.lt_of_lt_of_le r2.lt bel3.size, e2, rowIs_later r2 bel3 r2.lt⟩
  have hk : 0 < m → ∃ b, b < w3.heap.size ∧ am = some ⟨b, 0, none⟩ ∧ w3.rowIs b 4 n (fun i => .bool (mk i)) := fun hm0 => by
    have := hin' 0 hm0
    obtain ⟨e3, r3⟩ := row3 (by omega)
    exact ⟨w2.heap.size, r3.lt, e3, r3⟩
  refine (fit_any m m n n n0 n0 n1 n1 ao am o0 o1 z mk w3 (by omega) (by omega) hz hk hin').mono ?_
  rintro e w4 ⟨q, rfl, hq, bel4, hf⟩
  have belx5 : Below w1.heap.size w1 w4 := belx4.trans (bel4.mono belx4.size)
  have hsame : 0 < m → ∃ b, ao = some ⟨b, 0, none⟩ ∧ w4.rowIs b 3 m (fun i => .int .i64 (z i)) := fun hm0 => by
    obtain ⟨b, hb, e2, r2⟩ := hz hm0
    exact ⟨b, e2, rowIs_later r2 bel4 hb⟩
  clear hz belx4
  go_wp2_with fail
  refine (same_self ao m m z w4 (by omega) hsame).mono ?_
  rintro e w5 ⟨rfl, bel5⟩
  have bel : Below w1.heap.size w1 w5 := belx5.trans (bel5.mono belx5.size)
  clear belx5
  by_cases hm0 : 0 < m
  case neg =>
    obtain rfl : m = 0 := by omega
    go_wp2
    go_ret
    exact ⟨rfl, bel⟩
  obtain ⟨bz, rfl, rz⟩ := hsame hm0
  obtain ⟨bm, hbm, rfl, rm⟩ := hk hm0
  obtain ⟨f, hrow, ht⟩ := hf hm0
  have rz' : w5.rowIs bz 3 m (fun i => .int .i64 (z i)) := rowIs_later rz bel5 rz.lt
  have rm' : w5.rowIs bm 4 n (fun i => .bool (mk i)) := rowIs_later (rowIs_later rm bel4 hbm) bel5 (Nat.lt_of_lt_of_le hbm bel4.size)
  have rf' : w5.rowIs q 3 (2 * m) (fun i => .int .i64 (f i)) := rowIs_later hrow bel5 hrow.lt
  have cf0 : w5.cell? ⟨q, 0, none⟩ = some (.int .i64 0) := by rw [rf'.cell (by omega), ht.zero hm0]
  have lz := rz'.lt
  have lm := rm'.lt
  have lq := rf'.lt
  clear row2 row3 hf hsame hk rz rm hrow bel2 bel3 bel4 bel5 hbm
  have hmk := run_make_row' (P := Try.prog) 22 3 (.int .i64 0) 8 Try.underlying22 Try.info3 rfl .i64 .i64 (2 * m) (by omega) (by omega)
  rw [show ((2 * m : Nat) : Int) = 2 * (m : Int) from by omega] at hmk
  have hmm : ((m : Int) == 0) = false := beq_eq_false_iff_ne.2 (by omega)
  go_wp2
  go_loopw [14] (fun i wr => ∃ (u : Nat) (g : Nat → Int), 1 ≤ u ∧ u ≤ m ∧ i = .int .i64 u ∧ Below w5.heap.size w5 wr ∧ wr.rowIs w5.heap.size 3 (2 * m) (fun i => .int .i64 (g i)) ∧ ∀ j, 1 ≤ j → j < u → g j = n) (fun i _ => m - (intOf i).toNat)
  case atStart => exact ⟨1, fun _ => 0, by omega, by omega, rfl, (Below.refl _ _).alloc (Nat.le_refl _) _, World.rowIs_made w5 (.int .i64 0) (2 * m) 3, fun j h1 h2 => by omega⟩
  case round =>
    obtain ⟨u, g, hu1, hu2, rfl, belr, rowg, hg⟩ := hrel
    clear hmk
    by_cases hlt : u < m
    · have cu := rowg.cell (show u < 2 * m from by omega)
      have fu := rowg.frozen u
      go_wp2
      go_roundw
      case rel => exact ⟨u + 1, upd g u n, by omega, by omega, by go_num, belr.setCell (Nat.le_refl _) _, row_upd rowg _ _, fun j h1 h2 => by
        by_cases e : j = u
        · subst e; rw [upd_same]
        · rw [upd_ne _ _ e]; exact hg j h1 (by omega)⟩
      case measure => simp [intOf]; omega
    obtain rfl : m = u := by omega
    have hmod : Mod m n (leaf n z mk) 0 g := ⟨fun j hj => by omega, fun j h1 h2 => by rw [hg j h1 h2]; exact Best.start _ _ _ _⟩
    clear hlt hg
    go_wp2
    go_loopw [15] (fun i wo => ∃ (k : Nat) (g : Nat → Int), k ≤ m ∧ i = .int .i64 k ∧ Below w5.heap.size w5 wo ∧ wo.rowIs w5.heap.size 3 (2 * m) (fun i => .int .i64 (g i)) ∧ Mod m n (leaf n z mk) k g) (fun i _ => m - (intOf i).toNat)
    case atStart => exact ⟨0, g, Nat.zero_le _, rfl, belr, rowg, hmod⟩
    case round =>
      clear hmod belr rowg
      obtain ⟨k, g, hk, rfl, belr, rowg, hmod⟩ := hrel
      by_cases hlt : k < m
      · obtain ⟨z0, z1⟩ := hin' k hlt
        obtain ⟨p, hp⟩ := Int.eq_ofNat_of_zero_le z0
        have hpn : (p : Int) < n := by omega
        have cz : wr.cell? ⟨bz, k, none⟩ = some (.int .i64 (p : Int)) := by rw [belr.cell (by exact lz), rz'.cell hlt, hp]
        have cm : wr.cell? ⟨bm, p, none⟩ = some (.bool (mk p)) := by rw [belr.cell (by exact lm), rm'.cell (by omega)]
        have cu := rowg.cell (show m + k < 2 * m from by omega)
        have fu := rowg.frozen (m + k)
        have HL : leaf n z mk k = if mk p = true then (p : Int) else n := by unfold leaf; rw [hp]; simp
        have HC : Hid (Climb m n (leaf n z mk) k ((m + k) / 2) (upd g (m + k) (leaf n z mk k))) := Climb.start hmod hlt
        clear hmod hp z0 z1 hin' rz' rm' ht cf0
        cases hmp : mk p
        · rw [hmp] at cm HL
          have HX : Hid (leaf n z mk k = (n : Int)) := by rw [HL]; show (if false = true then (p : Int) else n) = n; simp
          clear HL
          go_wp2
          go_loopw [17] (fun i wi => ∃ (c : Nat) (g : Nat → Int), i = .int .i64 c ∧ Below w5.heap.size w5 wi ∧ wi.rowIs w5.heap.size 3 (2 * m) (fun i => .int .i64 (g i)) ∧ Climb m n (leaf n z mk) k c g) (fun i _ => (intOf i).toNat)
          case atStart => exact ⟨(m + k) / 2, upd g (m + k) (leaf n z mk k), by go_num, belr.setCell (Nat.le_refl _) _, by rw [HX.out]; exact row_upd rowg _ _, HC.out⟩
          case round =>
            obtain ⟨c, g', rfl, beli, rowi, hc⟩ := hrel
            have hcm := hc.bound hlt
            by_cases hc1 : 1 ≤ c
            · have cc := rowi.cell (show c < 2 * m from by omega)
              have fc := rowi.frozen c
              by_cases hv : (n : Int) < g' c
              · have HS : Hid (Climb m n (leaf n z mk) k (c / 2) (upd g' c (n : Int))) := by
                  have := hc.step hlt hc1
                  rw [HX.out, if_pos hv] at this
                  exact this
                clear hc
                go_wp2
                go_roundw
                case rel => exact ⟨c / 2, upd g' c (n : Int), by go_num, beli.setCell (Nat.le_refl _) _, row_upd rowi _ _, HS.out⟩
                case measure => simp [intOf]; omega
              · have HS : Hid (Climb m n (leaf n z mk) k (c / 2) g') := hc.stay hlt hc1 (by rw [HX.out]; exact hv)
                clear hc
                go_wp2
                go_roundw
                case rel => exact ⟨c / 2, g', by go_num, beli, rowi, HS.out⟩
                case measure => simp [intOf]; omega
            · obtain rfl : c = 0 := by omega
              have HS : Hid (Mod m n (leaf n z mk) (k + 1) g') := hc.done
              clear hc
              go_wp2
              go_roundw
              case rel => exact ⟨k + 1, g', by omega, by go_num, beli, rowi, HS.out⟩
              case measure => simp [intOf]; omega
        · rw [hmp] at cm HL
          have HX : Hid (leaf n z mk k = (p : Int)) := by rw [HL]; show (if true = true then (p : Int) else n) = p; simp
          clear HL
          go_wp2
          go_loopw [17] (fun i wi => ∃ (c : Nat) (g : Nat → Int), i = .int .i64 c ∧ Below w5.heap.size w5 wi ∧ wi.rowIs w5.heap.size 3 (2 * m) (fun i => .int .i64 (g i)) ∧ Climb m n (leaf n z mk) k c g) (fun i _ => (intOf i).toNat)
          case atStart => exact ⟨(m + k) / 2, upd g (m + k) (leaf n z mk k), by go_num, belr.setCell (Nat.le_refl _) _, by rw [HX.out]; exact row_upd rowg _ _, HC.out⟩
          case round =>
            obtain ⟨c, g', rfl, beli, rowi, hc⟩ := hrel
            have hcm := hc.bound hlt
            by_cases hc1 : 1 ≤ c
            · have cc := rowi.cell (show c < 2 * m from by omega)
              have fc := rowi.frozen c
              by_cases hv : (p : Int) < g' c
              · have HS : Hid (Climb m n (leaf n z mk) k (c / 2) (upd g' c (p : Int))) := by
                  have := hc.step hlt hc1
                  rw [HX.out, if_pos hv] at this
                  exact this
                clear hc
                go_wp2
                go_roundw
                case rel => exact ⟨c / 2, upd g' c (p : Int), by go_num, beli.setCell (Nat.le_refl _) _, row_upd rowi _ _, HS.out⟩
                case measure => simp [intOf]; omega
              · have HS : Hid (Climb m n (leaf n z mk) k (c / 2) g') := hc.stay hlt hc1 (by rw [HX.out]; exact hv)
                clear hc
                go_wp2
                go_roundw
                case rel => exact ⟨c / 2, g', by go_num, beli, rowi, HS.out⟩
                case measure => simp [intOf]; omega
            · obtain rfl : c = 0 := by omega
              have HS : Hid (Mod m n (leaf n z mk) (k + 1) g') := hc.done
              clear hc
              go_wp2
              go_roundw
              case rel => exact ⟨k + 1, g', by omega, by go_num, beli, rowi, HS.out⟩
              case measure => simp [intOf]; omega
      obtain rfl : m = k := by omega
      clear hlt
      have HE : Hid (∀ u, 1 ≤ u → u < 2 * m → f u = g u) := tree_is_model ht hmod (fun j hj => by have := hin' j hj; unfold leaf; split <;> omega)
      have rfr : wr.rowIs q 3 (2 * m) (fun i => .int .i64 (f i)) := rowIs_later rf' belr lq
      have lg := rowg.lt
      have lf := rfr.lt
      have belw : Below w1.heap.size w1 wr := bel.trans (belr.mono bel.size)
      clear hmod hin' rz' rm' ht cf0 rf' bel belr
      go_wp2
      go_loopw [18] (fun i wl => ∃ u : Nat, 1 ≤ u ∧ u ≤ 2 * m ∧ i = .int .i64 u ∧ Below wr.heap.size wr wl) (fun i _ => 2 * m - (intOf i).toNat)
      case atStart => exact ⟨1, by omega, by omega, rfl, Below.refl _ _⟩
      case round =>
        obtain ⟨u, hu1, hu2, rfl, bell⟩ := hrel
        by_cases hlt : u < 2 * m
        · have ca := (rowIs_later rfr bell lf).cell hlt
          have cb := (rowIs_later rowg bell lg).cell hlt
          rw [HE.out u hu1 hlt] at ca
          go_wp2
          go_region
          go_wp2
          go_roundw
          case rel => exact ⟨u + 1, by omega, by omega, by go_num, bell.drew⟩
          case measure => simp [intOf]; omega
        · go_wp2
          go_ret
          exact ⟨rfl, belw.trans (bell.mono belw.size)⟩

end Go.Proofs.Qxb6602223a
