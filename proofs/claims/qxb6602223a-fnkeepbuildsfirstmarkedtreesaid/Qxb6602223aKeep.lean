/-
  THE WALKS OF keep AND OF ITS EXPORTED SHIM.
-/
import Derived.Test.Qxb6602223aSmall
import Derived.Test.Qxb6602223aPlain
import Derived.BigRegion
namespace Go.Proofs.Qxb6602223a
open Go.RowKit

/-- The post of keep, called with at least one place: the node's two fields; the tree in the new block 'w.heap.size'; below the node's own block nothing has turned. -/
def KeepPost (p m cm n : Nat) (b : Addr) (z : Nat → Int) (mk : Nat → Bool) (w : World) (e : Ending) (w' : World) : Prop :=
  e = .returned (.tuple #[]) ∧ Below p w w' ∧ w'.heap[p]? = some (.cells #[.slice (some b) m cm, .slice (some ⟨w.heap.size, 0, none⟩) (2 * m) (2 * m)] 35 (0, 0)) ∧
    ∃ f : Nat → Int, w'.rowIs w.heap.size 3 (2 * m) (fun i => .int .i64 (f i)) ∧ Tree m (leaf n z mk) f

/-- What holds all through keep's two loops: below the node nothing has turned; the node's two fields; the new row holds f. -/
structure KS (p bz m cm : Nat) (w wr : World) (f : Nat → Int) : Prop where
  below : Below p w wr
  node : wr.heap[p]? = some (.cells #[.slice (some ⟨bz, 0, none⟩) m cm, .slice (some ⟨w.heap.size, 0, none⟩) (2 * m) (2 * m)] 35 (0, 0))
  row : wr.rowIs w.heap.size 3 (2 * m) (fun i => .int .i64 (f i))

theorem KS.store {p bz m cm : Nat} {w wr : World} {f : Nat → Int} (h : KS p bz m cm w wr f) (hp : p < w.heap.size) (i : Nat) (v : Int) :
    KS p bz m cm w (wr.setCell ⟨w.heap.size, i, none⟩ (.int .i64 v)) (upd f i v) :=
  ⟨h.below.setCell (by simp; omega) _, by rw [Deep.blk_setCell_other _ _ _ _ (by simp; omega)]; exact h.node, rowIs_setv h.row _ _ _ (fun j _ => by unfold upd; split <;> rfl)⟩

theorem KS.drew {p bz m cm : Nat} {w wr : World} {f : Nat → Int} (h : KS p bz m cm w wr f) : KS p bz m cm w wr.drew f := ⟨h.below.drew, h.node, h.row⟩

theorem KS.start {p bz m cm : Nat} {w : World} {x0 x1 : Value} (hp : w.heap[p]? = some (.cells #[x0, x1] 35 (0, 0))) :
    KS p bz m cm w (((w.setCell ⟨p, 0, none⟩ (.slice (some ⟨bz, 0, none⟩) m cm)).setCell ⟨p, 1, none⟩ (.slice (some ⟨w.heap.size, 0, none⟩) (2 * m) (2 * m))).alloc (.cells (madeCells #[.int .i64 0] (2 * m)) 3)) (fun _ => 0) := by
  have hpl : p < w.heap.size := lt_of_block hp
  refine ⟨?_, ?_, ?_⟩
  · refine Below.alloc (Below.setCell (Below.setCell (Below.refl _ _) (by simp) _) (by simp) _) (by simp [World.setCell]; omega) _
  · rw [Deep.blk_alloc_lt _ _ _ (by simp [World.setCell]; exact hpl), heap_setCell_same _ _ _ _ _ _ (heap_setCell_same _ _ _ _ _ _ hp)]
    rfl
  · have := World.rowIs_made ((w.setCell ⟨p, 0, none⟩ (.slice (some ⟨bz, 0, none⟩) m cm)).setCell ⟨p, 1, none⟩ (.slice (some ⟨w.heap.size, 0, none⟩) (2 * m) (2 * m))) (.int .i64 0) (2 * m) 3
    simpa [World.setCell] using this

set_option maxHeartbeats 400000 in
theorem keep_some (p bz bm m cm n cn : Nat) (x0 x1 : Value) (z : Nat → Int) (mk : Nat → Bool) (w : World) (hm0 : 0 < m) (hm : m ≤ 1048576) (_hn : n ≤ 1048576)
    (hp : w.heap[p]? = some (.cells #[x0, x1] 35 (0, 0))) (hbz : bz < p) (hbm : bm < p)
    (hz : w.rowIs bz 3 m (fun i => .int .i64 (z i))) (hmk : w.rowIs bm 4 n (fun i => .bool (mk i))) (hin : ∀ k, k < m → 0 ≤ z k ∧ z k < n) :
    Calls Try.prog 14 #[.pointer (some ⟨p, 0, none⟩), .slice (some ⟨bz, 0, none⟩) m cm, .slice (some ⟨bm, 0, none⟩) n cn] w fun e w' => KeepPost p m cm n ⟨bz, 0, none⟩ z mk w e w' := by
  have hmake := run_make_row' (P := Try.prog) 22 3 (.int .i64 0) 8 Try.underlying22 Try.info3 rfl .i64 .i64 (2 * m) (by omega) (by omega)
  rw [show ((2 * m : Nat) : Int) = 2 * (m : Int) from by omega] at hmake
  have hp0 : w.cell? ⟨p, 0, none⟩ = some x0 := by simp [World.cell?, hp]
  have hp1 : w.cell? ⟨p, 1, none⟩ = some x1 := by simp [World.cell?, hp]
  have hf0 : w.frozen? ⟨p, 0, none⟩ = false := by simp [World.frozen?, hp]
  have hf1 : w.frozen? ⟨p, 1, none⟩ = false := by simp [World.frozen?, hp]
  have hpl : p < w.heap.size := lt_of_block hp
  go_enter Try.func14, Try.ntmps14
  go_wp2
  go_loopw [27] (fun i wr => ∃ (k : Nat) (f : Nat → Int), k ≤ m ∧ i = .int .i64 k ∧ KS p bz m cm w wr f ∧ f 0 = 0 ∧ ∀ j, j < k → f (m + j) = leaf n z mk j) (fun i _ => m - (intOf i).toNat)
  case atStart => exact ⟨0, fun _ => 0, Nat.zero_le _, rfl, KS.start hp, rfl, fun j hj => by omega⟩
  case round =>
    obtain ⟨k, f, hk, rfl, hks, hf00, hlf⟩ := hrel
    clear hp hp0 hp1 hf0 hf1 hmake
    have c1 : wr.cell? ⟨p, 1, none⟩ = some (.slice (some ⟨w.heap.size, 0, none⟩) (2 * m) (2 * m)) := by simp [World.cell?, hks.node]
    by_cases hlt : k < m
    · obtain ⟨z0, z1⟩ := hin k hlt
      obtain ⟨q, hq⟩ := Int.eq_ofNat_of_zero_le z0
      have cz : wr.cell? ⟨bz, k, none⟩ = some (.int .i64 (q : Int)) := by rw [hks.below.cell (by exact hbz), hz.cell hlt, hq]
      have cm1 : wr.cell? ⟨bm, q, none⟩ = some (.bool (mk q)) := by rw [hks.below.cell (by exact hbm), hmk.cell (by omega)]
      have cr := hks.row.cell (show m + k < 2 * m from by omega)
      have fr := hks.row.frozen (m + k)
      have hqn : (q : Int) < n := by omega
      have HL : Hid (leaf n z mk k = if mk q = true then (q : Int) else n) := by show leaf n z mk k = _; unfold leaf; rw [hq]; simp
      clear hq hz hmk hin
      cases hmq : mk q
      · rw [hmq] at cm1
        go_wp2
        go_roundw
        case rel => exact ⟨k + 1, upd f (m + k) n, by omega, by go_num, hks.store hpl _ _, by rw [upd_ne _ _ (by omega)]; exact hf00, fun j hj => by
          by_cases e : j = k
          · subst e; rw [upd_same, HL.out, hmq]; rfl
          · rw [upd_ne _ _ (by omega)]; exact hlf j (by omega)⟩
        case measure => simp [intOf]; omega
      · rw [hmq] at cm1
        go_wp2
        go_roundw
        case rel => exact ⟨k + 1, upd (upd f (m + k) n) (m + k) q, by omega, by go_num, (hks.store hpl _ _).store hpl _ _, by rw [upd_ne _ _ (by omega), upd_ne _ _ (by omega)]; exact hf00, fun j hj => by
          by_cases e : j = k
          · subst e; rw [upd_same, HL.out, hmq]; rfl
          · rw [upd_ne _ _ (by omega), upd_ne _ _ (by omega)]; exact hlf j (by omega)⟩
        case measure => simp [intOf]; omega
    · obtain rfl : k = m := by omega
      clear hlt hz hmk hin c1
      go_wp2
      go_loopw [10] (fun i w2 => ∃ (u : Nat) (f : Nat → Int), u < k ∧ i = .int .i64 u ∧ KS p bz k cm w w2 f ∧ f 0 = 0 ∧ (∀ j, j < k → f (k + j) = leaf n z mk j) ∧ ∀ j, u < j → j < k → f j = min (f (2 * j)) (f (2 * j + 1))) (fun i _ => (intOf i).toNat)
      case atStart => exact ⟨k - 1, f, by omega, by rw [show ((k - 1 : Nat) : Int) = (k : Int) - 1 from by omega], hks, hf00, hlf, fun j h1 h2 => by omega⟩
      case round =>
        obtain ⟨u, g, hu, rfl, hkg, hg0, hgl, hgi⟩ := hrel
        clear hks hf00 hlf
        have c1 : wr.cell? ⟨p, 1, none⟩ = some (.slice (some ⟨w.heap.size, 0, none⟩) (2 * k) (2 * k)) := by simp [World.cell?, hkg.node]
        by_cases hu0 : 1 ≤ u
        · have ca := hkg.row.cell (show 2 * u < 2 * k from by omega)
          have cb := hkg.row.cell (show 2 * u + 1 < 2 * k from by omega)
          have cu := hkg.row.cell (show u < 2 * k from by omega)
          have fu := hkg.row.frozen u
          go_wp2
          go_region
          go_wp2
          go_roundw
          case rel => exact ⟨u - 1, _, by omega, by rw [show ((u - 1 : Nat) : Int) = (u : Int) - 1 from by omega], (hkg.store hpl _ _).drew, by rw [upd_ne _ _ (by omega)]; exact hg0, fun j hj => by rw [upd_ne _ _ (by omega)]; exact hgl j hj, inner_step hu0 hgi⟩
          case measure => simp [intOf]; omega
        · obtain rfl : u = 0 := by omega
          go_wp2
          go_end0
          exact ⟨rfl, hkg.below, hkg.node, g, hkg.row, ⟨fun _ => hg0, hgl, fun v h1 h2 => hgi v h1 h2⟩⟩

/-- keep, called with no place at all: the new row is empty. -/
def KeepPost0 (p cm : Nat) (ao : Option Addr) (w : World) (e : Ending) (w' : World) : Prop :=
  e = .returned (.tuple #[]) ∧ Below p w w' ∧ w'.heap[p]? = some (.cells #[.slice ao 0 cm, .slice (some ⟨w.heap.size, 0, none⟩) 0 0] 35 (0, 0))

set_option maxHeartbeats 400000 in
theorem keep_zero (p cm n cn : Nat) (ao am : Option Addr) (x0 x1 : Value) (w : World) (_hn : n ≤ 1048576)
    (hp : w.heap[p]? = some (.cells #[x0, x1] 35 (0, 0))) :
    Calls Try.prog 14 #[.pointer (some ⟨p, 0, none⟩), .slice ao 0 cm, .slice am n cn] w fun e w' => KeepPost0 p cm ao w e w' := by
  have hmk0 : ∀ w, (Instr.makeSlice 22 (.int .i64 0) (.int .i64 0)).run Try.prog w = .ok (.slice (some ⟨w.heap.size, 0, none⟩) 0 0) (w.alloc (.cells (madeCells #[.int .i64 0] 0) 3)) :=
    fun w => run_make_row' (P := Try.prog) 22 3 (.int .i64 0) 8 Try.underlying22 Try.info3 rfl .i64 .i64 0 (by omega) (by omega) w
  have hp0 : w.cell? ⟨p, 0, none⟩ = some x0 := by simp [World.cell?, hp]
  have hp1 : w.cell? ⟨p, 1, none⟩ = some x1 := by simp [World.cell?, hp]
  have hf0 : w.frozen? ⟨p, 0, none⟩ = false := by simp [World.frozen?, hp]
  have hf1 : w.frozen? ⟨p, 1, none⟩ = false := by simp [World.frozen?, hp]
  have hpl : p < w.heap.size := lt_of_block hp
  go_enter Try.func14, Try.ntmps14
  go_wp2
  refine wp_loop_rounds 1 ?_
  rw [rounds_succ]
  go_wp2
  refine wp_loop_rounds 1 ?_
  rw [rounds_succ]
  go_wp2
  go_end0
  refine ⟨rfl, ?_, ?_⟩
  · refine Below.alloc (Below.setCell (Below.setCell (Below.refl _ _) (by simp) _) (by simp) _) (by simp [World.setCell]; omega) _
  · rw [Deep.blk_alloc_lt _ _ _ (by simp [World.setCell]; exact hpl), heap_setCell_same _ _ _ _ _ _ (heap_setCell_same _ _ _ _ _ _ hp)]
    rfl

/-- The post of the shim: the two fields are handed back; nothing that was there has turned. -/
def FitPost (m cm n : Nat) (ao : Option Addr) (z : Nat → Int) (mk : Nat → Bool) (w : World) (e : Ending) (w' : World) : Prop :=
  ∃ q, e = .returned (.tuple #[.slice ao m cm, .slice (some ⟨q, 0, none⟩) (2 * m) (2 * m)]) ∧ w.heap.size ≤ q ∧ Below w.heap.size w w' ∧
    (0 < m → ∃ f : Nat → Int, w'.rowIs q 3 (2 * m) (fun i => .int .i64 (f i)) ∧ Tree m (leaf n z mk) f)

set_option maxHeartbeats 400000 in
theorem fit_any (m cm n cn n0 c0 n1 c1 : Nat) (ao am a0 a1 : Option Addr) (z : Nat → Int) (mk : Nat → Bool) (w : World) (hm : m ≤ 1048576) (hn : n ≤ 1048576)
    (hz : 0 < m → ∃ b, b < w.heap.size ∧ ao = some ⟨b, 0, none⟩ ∧ w.rowIs b 3 m (fun i => .int .i64 (z i)))
    (hmk : 0 < m → ∃ b, b < w.heap.size ∧ am = some ⟨b, 0, none⟩ ∧ w.rowIs b 4 n (fun i => .bool (mk i))) (hin : ∀ k, k < m → 0 ≤ z k ∧ z k < n) :
    Calls Try.prog 10 #[.slice a0 n0 c0, .slice a1 n1 c1, .slice ao m cm, .slice am n cn] w fun e w' => FitPost m cm n ao z mk w e w' := by
  have hp : (w.alloc (.cells #[.slice a0 n0 c0, .slice a1 n1 c1] 35)).heap[w.heap.size]? = some (.cells #[.slice a0 n0 c0, .slice a1 n1 c1] 35 (0, 0)) := Deep.blk_alloc_new _ _
  by_cases hm0 : 0 < m
  · obtain ⟨bz, hbz, rfl, rz⟩ := hz hm0
    obtain ⟨bm, hbm, rfl, rm⟩ := hmk hm0
    have K := keep_some w.heap.size bz bm m cm n cn _ _ z mk _ hm0 hm hn hp hbz hbm (rz.alloc _) (rm.alloc _) hin
    clear hp hz hmk hin
    go_enter Try.func10, Try.ntmps10
    go_wp2_with fail
    refine K.mono ?_
    clear K
    rintro e w1 ⟨rfl, hbel, hnode, f, hrow, ht⟩
    rw [World.size_alloc] at hnode hrow
    have c0 : w1.cell? ⟨w.heap.size, 0, none⟩ = some (.slice (some ⟨bz, 0, none⟩) m cm) := by simp [World.cell?, hnode]
    have c1 : w1.cell? ⟨w.heap.size, 1, none⟩ = some (.slice (some ⟨w.heap.size + 1, 0, none⟩) (2 * m) (2 * m)) := by simp [World.cell?, hnode]
    go_wp2
    go_region
    go_wp2
    go_ret2
    exact ⟨w.heap.size + 1, rfl, by omega, ((Below.refl _ _).alloc (Nat.le_refl _) _).trans hbel.drew, fun _ => ⟨f, hrow, ht⟩⟩
  · obtain rfl : m = 0 := by omega
    have K := keep_zero w.heap.size cm n cn ao am _ _ _ hn hp
    clear hp hz hmk hin
    go_enter Try.func10, Try.ntmps10
    go_wp2_with fail
    refine K.mono ?_
    clear K
    rintro e w1 ⟨rfl, hbel, hnode⟩
    rw [World.size_alloc] at hnode
    have c0 : w1.cell? ⟨w.heap.size, 0, none⟩ = some (.slice ao 0 cm) := by simp [World.cell?, hnode]
    have c1 : w1.cell? ⟨w.heap.size, 1, none⟩ = some (.slice (some ⟨w.heap.size + 1, 0, none⟩) 0 0) := by simp [World.cell?, hnode]
    go_wp2
    go_region
    go_wp2
    go_ret2
    exact ⟨w.heap.size + 1, rfl, by omega, ((Below.refl _ _).alloc (Nat.le_refl _) _).trans hbel.drew, fun h => absurd h (by omega)⟩

end Go.Proofs.Qxb6602223a
