/-
  THE WALK OF FnKeepRootIsLeastMarkedPlace.
-/
import Derived.Test.Qxb6602223aKeep
namespace Go.Proofs.Qxb6602223a
open Go.RowKit

theorem IsIn.later {w w' : World} {a : Option Addr} {len cap : Nat} {f : Nat → Value} (h : IsIn w a len cap f) (hb : Below w.heap.size w w') : IsIn w' a len cap f := by
  rcases h with h | ⟨x, hx, hl, hc⟩
  · exact .inl h
  · refine .inr ⟨x, hx, hl, fun i hi => ?_⟩
    have h1 := hc i hi
    rw [hb.cell (by exact block_lt_of_cell h1)]
    exact h1

theorem rowIs_later {B : Nat} {w w' : World} {b : Nat} {t : TypeId} {n : Nat} {f : Nat → Value} (h : w.rowIs b t n f) (hb : Below B w w') (hB : b < B) : w'.rowIs b t n f := h.of_block (hb.block b hB)

/-- The post of a law: it returns true, and nothing that was there has turned. -/
def LawPost (w : World) (e : Ending) (w' : World) : Prop := e = .returned (.bool true) ∧ Below w.heap.size w w'

set_option maxHeartbeats 1000000 in
theorem root_walk (a0 a1 : Option Addr) (m c0 n c1 : Nat) (z : Nat → Int) (mk : Nat → Bool) (w : World) (h0 : m ≤ maxLen) (h1 : n ≤ maxLen)
    (i0 : IsIn w a0 m c0 (fun i => .int .i64 (z i))) (i1 : IsIn w a1 n c1 (fun i => .bool (mk i))) :
    Calls Try.prog 4 #[.slice a0 m c0, .slice a1 n c1] w fun e w' => LawPost w e w' := by
  go_enter Try.func4, Try.ntmps4
  go_wp2_with fail
  refine (zz2_any a0 a1 m c0 n c1 w h0 h1).mono ?_
  rintro e w' ⟨r, rfl, rfl⟩
  unfold maxLen at h0 h1
  cases r
  · go_wp2_with fail
    go_ret
    exact ⟨rfl, Below.refl _ _⟩
  · by_cases hm : m ≤ 32768
    · by_cases hn : n ≤ 65536
      · go_wp2_with fail
        refine (places_any a0 m c0 z n w' (by omega) i0).mono ?_
        rintro e w1 ⟨r, rfl, rfl, hin⟩
        cases r
        · go_wp2_with fail
          go_ret
          exact ⟨rfl, Below.refl _ _⟩
        · have hin' := hin rfl
          clear hin
          go_wp2_with fail
          refine (cloneInts_any a0 m c0 z w1 (by omega) i0).mono ?_
          rintro e w2 ⟨ao, rfl, bel2, row2⟩
          go_wp2_with fail
          refine (cloneBools_any a1 n c1 mk w2 (by omega) (i1.later bel2)).mono ?_
          rintro e w3 ⟨am, rfl, bel3, row3⟩
          go_wp2_with fail
          have hz : 0 < m → ∃ b, b < w3.heap.size ∧ ao = some ⟨b, 0, none⟩ ∧ w3.rowIs b 3 m (fun i => .int .i64 (z i)) := fun hm0 => by
            obtain ⟨e2, r2⟩ := row2 hm0
            exact ⟨w1.heap.size, Nat.lt_of_lt_of_le r2.lt bel3.size, e2, rowIs_later r2 bel3 r2.lt⟩
          have hk : 0 < m → ∃ b, b < w3.heap.size ∧ am = some ⟨b, 0, none⟩ ∧ w3.rowIs b 4 n (fun i => .bool (mk i)) := fun hm0 => by
            have := hin' 0 hm0
            obtain ⟨e3, r3⟩ := row3 (by omega)
            exact ⟨w2.heap.size, r3.lt, e3, r3⟩
          refine (fit_any m m n n 0 0 0 0 ao am none none z mk w3 (by omega) (by omega) hz hk hin').mono ?_
          rintro e w4 ⟨q, rfl, hq, bel4, hf⟩
          clear hz hk i0 i1
          have bel : Below w1.heap.size w1 w4 := (bel2.trans (bel3.mono bel2.size)).trans (bel4.mono (Nat.le_trans bel2.size bel3.size))
          by_cases hm0 : 0 < m
          · obtain ⟨rfl, r2⟩ := row2 hm0
            obtain ⟨f, hrow, ht⟩ := hf hm0
            have hn0 : 0 < n := by have := hin' 0 hm0; omega
            obtain ⟨rfl, r3⟩ := row3 hn0
            clear row2 row3 hf
            have r2' : w4.rowIs w1.heap.size 3 m (fun i => .int .i64 (z i)) := rowIs_later (rowIs_later r2 bel3 r2.lt) bel4 (Nat.lt_of_lt_of_le r2.lt bel3.size)
            have r3' : w4.rowIs w2.heap.size 4 n (fun i => .bool (mk i)) := rowIs_later r3 bel4 r3.lt
            have l12 : w1.heap.size < w2.heap.size := r2.lt
            have l23 : w2.heap.size < w3.heap.size := r3.lt
            have l4 := hrow.lt
            clear r2 r3 bel2 bel3 bel4
            have hmk := run_make_row' (P := Try.prog) 23 4 (.bool false) 1 Try.underlying23 Try.info4 rfl .i64 .i64 n (by omega) (by omega)
            have hmm : ((m : Int) == 0) = false := beq_eq_false_iff_ne.2 (by omega)
            go_wp2
            go_loopw [10, 11] (fun t i wr => ∃ (k : Nat) (least : Int) (ls : Nat → Bool), k ≤ m ∧ i = .int .i64 k ∧ t = .int .i64 least ∧ Below w4.heap.size w4 wr ∧ wr.rowIs w4.heap.size 4 n (fun i => .bool (ls i)) ∧ Seen n z mk k least ls) (fun _ i _ => m - (intOf i).toNat)
            case atStart => exact ⟨0, n, fun _ => false, Nat.zero_le _, rfl, rfl, (Below.refl _ _).alloc (Nat.le_refl _) _, World.rowIs_made w4 (.bool false) n 4, Seen.start _ _ _⟩
            case round =>
              obtain ⟨k, least, ls, hk, rfl, rfl, belr, rowl, hs⟩ := hrel
              clear hmk
              by_cases hlt : k < m
              · obtain ⟨z0, z1⟩ := hin' k hlt
                obtain ⟨p, hp⟩ := Int.eq_ofNat_of_zero_le z0
                have hpn : (p : Int) < n := by omega
                have cz : wr.cell? ⟨w1.heap.size, k, none⟩ = some (.int .i64 (p : Int)) := by rw [belr.cell (by exact r2'.lt), r2'.cell hlt, hp]
                have cm : wr.cell? ⟨w2.heap.size, p, none⟩ = some (.bool (mk p)) := by rw [belr.cell (by exact r3'.lt), r3'.cell (by omega)]
                have cl := rowl.cell (show p < n from by omega)
                have fl := rowl.frozen p
                have HS : Hid (mk p = false → Seen n z mk (k + 1) least ls) := fun h => hs.skip hp h
                have HT : Hid (mk p = true → Seen n z mk (k + 1) (if (p : Int) < least then (p : Int) else least) (updB ls p true)) := fun h => hs.take hp h
                clear hs hp z0 z1 hin'
                cases hmp : mk p
                · rw [hmp] at cm
                  go_wp2
                  go_roundw
                  case rel => exact ⟨k + 1, least, ls, by omega, by go_num, rfl, belr, rowl, HS.out hmp⟩
                  case measure => simp [intOf]; omega
                · rw [hmp] at cm
                  by_cases hpl : (p : Int) < least
                  · go_wp2
                    go_roundw
                    case rel => exact ⟨k + 1, p, updB ls p true, by omega, by go_num, rfl, belr.setCell (Nat.le_refl _) _, rowIs_setv rowl _ _ _ (fun j _ => by unfold updB; split <;> rfl), by have := HT.out hmp; rw [if_pos hpl] at this; exact this⟩
                    case measure => simp [intOf]; omega
                  · go_wp2
                    go_roundw
                    case rel => exact ⟨k + 1, least, updB ls p true, by omega, by go_num, rfl, belr.setCell (Nat.le_refl _) _, rowIs_setv rowl _ _ _ (fun j _ => by unfold updB; split <;> rfl), by have := HT.out hmp; rw [if_neg hpl] at this; exact this⟩
                    case measure => simp [intOf]; omega
              · obtain rfl : k = m := by omega
                clear hlt
                have c1 : wr.cell? ⟨q, 1, none⟩ = some (.int .i64 least) := by rw [belr.cell (by exact l4), hrow.cell (by omega), root_is_least hm0 hin' ht hs]
                have H : Hid (Tree k (leaf n z mk) f ∧ Seen n z mk k least ls ∧ ∀ j, j < k → 0 ≤ z j ∧ z j < n) := ⟨ht, hs, hin'⟩
                clear ht hs hin' r2' r3'
                go_wp2
                go_loop [13] (fun i => ∃ u : Nat, 1 ≤ u ∧ u ≤ 2 * k ∧ i = .int .i64 u) (fun i => 2 * k - (intOf i).toNat)
                case atStart => exact ⟨1, by omega, by omega, rfl⟩
                case round =>
                  obtain ⟨u, hu1, hu2, rfl⟩ := hrel
                  by_cases hlt : u < 2 * k
                  · have cu : wr.cell? ⟨q, u, none⟩ = some (.int .i64 (f u)) := by rw [belr.cell (by exact l4), hrow.cell hlt]
                    rcases node_listed H.out.2.2 H.out.1 H.out.2.1 u hu1 hlt with hx | ⟨p, hx, hpn, hlp⟩
                    · rw [hx] at cu
                      clear hx
                      go_wp2
                      go_round
                      case rel => exact ⟨u + 1, by omega, by omega, by go_num⟩
                      case measure => simp [intOf]; omega
                    · rw [hx] at cu
                      have cl := rowl.cell (show p < n from by omega)
                      rw [hlp] at cl
                      have hpe : ((p : Int) == (n : Int)) = false := beq_eq_false_iff_ne.2 (by omega)
                      clear hx hlp
                      go_wp2
                      go_round
                      case rel => exact ⟨u + 1, by omega, by omega, by go_num⟩
                      case measure => simp [intOf]; omega
                  · go_wp2
                    go_ret
                    exact ⟨rfl, bel.trans (belr.mono bel.size)⟩
          · obtain rfl : m = 0 := by omega
            go_wp2
            go_ret
            exact ⟨rfl, bel⟩
      · go_wp2_with fail
        go_ret
        exact ⟨rfl, Below.refl _ _⟩
    · go_wp2_with fail
      go_ret
      exact ⟨rfl, Below.refl _ _⟩

end Go.Proofs.Qxb6602223a
