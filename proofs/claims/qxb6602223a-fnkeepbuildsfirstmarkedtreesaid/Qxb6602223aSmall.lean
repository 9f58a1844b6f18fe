/-
  THE SMALL CALLEES of the two laws on keep: the length guards, placesWithin, cloneInts, cloneBools, sameInts: each by a contract.
-/
import Derived.Test.Qxb6602223aRows
import Derived.WalkKit
import Derived.WalkSpells
import Derived.WalkLawsBesides
import Derived.Deep.OwnRows
import Derived.Deep.QuietTactic
import Derived.BigQuiet
namespace Go.Proofs.Qxb6602223a
open Go.RowKit

/-- WHAT IS TOLD OF A SLICE THAT CAME IN: it is nil; or it leads to cells of which the first 'len' hold 'f 0', 'f 1', .. -/
def IsIn (w : World) (a : Option Addr) (len cap : Nat) (f : Nat → Value) : Prop :=
  (a = none ∧ len = 0 ∧ cap = 0) ∨
  ∃ x, a = some x ∧ len ≤ cap ∧ ∀ i, i < len → w.cell? (x.add i) = some (f i)

theorem Try.info3 : (Try.prog.info? 3).map (fun i => (i.zero, i.size, i.bytes)) = some (some (.int .i64 0), 1, 8) := by kernel_rfl
theorem Try.info4 : (Try.prog.info? 4).map (fun i => (i.zero, i.size, i.bytes)) = some (some (.bool false), 1, 1) := by kernel_rfl

set_option maxHeartbeats 400000 in
theorem zz2_any (a0 a1 : Option Addr) (n0 c0 n1 c1 : Nat) (w : World) (h0 : n0 ≤ maxLen) (h1 : n1 ≤ maxLen) :
    Calls Try.prog 12 #[.slice a0 n0 c0, .slice a1 n1 c1] w fun e w' => ∃ r : Bool, e = .returned (.bool r) ∧ w' = w := by
  unfold maxLen at h0 h1
  go_enter Try.func12, Try.ntmps12
  go_wp2
  all_goals (go_ret; exact ⟨_, rfl, rfl⟩)

theorem add_plain' (b off i : Nat) : (⟨b, off, none⟩ : Addr).add i = ⟨b, off + i, none⟩ := by unfold Addr.add; split <;> simp_all

theorem IsIn.at {w : World} {a : Option Addr} {len cap : Nat} {f : Nat → Value} (h : IsIn w a len cap f) (hl : 0 < len) :
    ∃ b off, a = some ⟨b, off, none⟩ ∧ b < w.heap.size ∧ ∀ i, i < len → w.cell? ⟨b, off + i, none⟩ = some (f i) := by
  rcases h with ⟨_, h0, _⟩ | ⟨x, hx, _, hc⟩
  · omega
  · obtain ⟨b, off, spot⟩ := x
    have hs : spot = none := by simpa [Addr.add] using World.cell?_spot (hc 0 hl)
    subst hs
    have hc' : ∀ i, i < len → w.cell? ⟨b, off + i, none⟩ = some (f i) := fun i hi => by rw [← add_plain']; exact hc i hi
    exact ⟨b, off, hx, block_lt_of_cell (hc' 0 hl), hc'⟩

/-- The post of placesWithin: some bool; if true, all places lie in [0, n). (A name of its own: the walk's simp does not open it.) -/
def PlacesPost (len : Nat) (z : Nat → Int) (n : Int) (w : World) (e : Ending) (w' : World) : Prop :=
  ∃ r : Bool, e = .returned (.bool r) ∧ w' = w ∧ (r = true → ∀ k, k < len → 0 ≤ z k ∧ z k < n)

set_option maxHeartbeats 400000 in
theorem places_any (a : Option Addr) (len cap : Nat) (z : Nat → Int) (n : Int) (w : World) (hm : len ≤ 1048576) (h : IsIn w a len cap (fun i => .int .i64 (z i))) :
    Calls Try.prog 7 #[.slice a len cap, .int .i64 n] w fun e w' => PlacesPost len z n w e w' := by
  by_cases hl : 0 < len
  · obtain ⟨b, off, rfl, _, hc⟩ := h.at hl
    go_enter Try.func7, Try.ntmps7
    go_wp2
    go_loop [5] (fun i => ∃ k : Nat, k ≤ len ∧ i = .int .i64 k ∧ ∀ j, j < k → 0 ≤ z j ∧ z j < n) (fun i => len - (intOf i).toNat)
    case atStart => exact ⟨0, Nat.zero_le _, rfl, fun j hj => by omega⟩
    case round =>
      obtain ⟨k, hk, rfl, hz⟩ := hrel
      by_cases hlt : k < len
      · have hck := hc k hlt
        clear hc
        by_cases hb : 0 ≤ z k ∧ z k < n
        · obtain ⟨hb1, hb2⟩ := hb
          go_wp2
          go_round
          case rel => exact ⟨k + 1, by omega, by go_num, fun j hj => by
            by_cases e : j = k
            · subst e; omega
            · exact hz j (by omega)⟩
          case measure => simp [intOf]; omega
        · rcases (show z k < 0 ∨ (0 ≤ z k ∧ n ≤ z k) from by omega) with hn | ⟨hn1, hn2⟩
          all_goals
            clear hb
            go_wp2
            go_ret
            exact ⟨_, rfl, rfl, fun h => by cases h⟩
      · go_wp2
        go_ret
        exact ⟨_, rfl, rfl, fun _ j hj => hz j (by omega)⟩
  · obtain rfl : len = 0 := by omega
    go_enter Try.func7, Try.ntmps7
    go_wp2
    refine wp_loop_rounds 1 ?_
    rw [rounds_succ]
    go_wp2
    go_ret
    exact ⟨_, rfl, rfl, fun _ k hk => by omega⟩

/-- The post of cloneInts and cloneBools: a slice of the same length; where it has elements it lies in the new block 'w.heap.size'; nothing old has turned. -/
def ClonePost (ty : TypeId) (len : Nat) (f : Nat → Value) (w : World) (e : Ending) (w' : World) : Prop :=
  ∃ ao, e = .returned (.slice ao len len) ∧ Below w.heap.size w w' ∧ (0 < len → ao = some ⟨w.heap.size, 0, none⟩ ∧ w'.rowIs w.heap.size ty len f)

theorem rowIs_setv {w : World} {b : Nat} {t : TypeId} {n : Nat} {f : Nat → Value} (h : w.rowIs b t n f) (i : Nat) (v : Value) (g : Nat → Value) (hg : ∀ j, j < n → g j = if j = i then v else f j) :
    (w.setCell ⟨b, i, none⟩ v).rowIs b t n g := (h.set i v).congr (fun j hj => (hg j hj).symm)

set_option maxHeartbeats 400000 in
theorem cloneInts_any (a : Option Addr) (len cap : Nat) (z : Nat → Int) (w : World) (hm : len ≤ 1048576) (h : IsIn w a len cap (fun i => .int .i64 (z i))) :
    Calls Try.prog 8 #[.slice a len cap] w fun e w' => ClonePost 3 len (fun i => .int .i64 (z i)) w e w' := by
  have hmk := run_make_row' (P := Try.prog) 22 3 (.int .i64 0) 8 Try.underlying22 Try.info3 rfl .i64 .i64 len (by omega) (by omega)
  have q22 : ∀ (w : World) (a : Option Addr) (n c n' c' : Nat), (binOp .eql 22 (.slice a n c) (.slice none n' c')).run Try.prog w = .ok (.bool a.isNone) w := fun w a n c n' c' => Lib.run_eql_slice_nil w _ _ a n c n' c' Try.underlying22
  by_cases hl : 0 < len
  · obtain ⟨b, off, rfl, hb, hc⟩ := h.at hl
    clear h
    go_enter Try.func8, Try.ntmps8
    go_wp2
    go_loopw [4] (fun i wr => ∃ (k : Nat) (g : Nat → Int), k ≤ len ∧ i = .int .i64 k ∧ Below w.heap.size w wr ∧ wr.rowIs w.heap.size 3 len (fun j => .int .i64 (g j)) ∧ ∀ j, j < k → g j = z j) (fun i _ => len - (intOf i).toNat)
    case atStart => exact ⟨0, fun _ => 0, Nat.zero_le _, rfl, (Below.refl _ _).alloc (Nat.le_refl _) _, World.rowIs_made w (.int .i64 0) len 3, fun j hj => by omega⟩
    case round =>
      obtain ⟨k, g, hk, rfl, hbel, hrow, hg⟩ := hrel
      by_cases hlt : k < len
      · have hck : wr.cell? ⟨b, off + k, none⟩ = some (.int .i64 (z k)) := (hbel.cell hb).trans (hc k hlt)
        have hw0 := hrow.cell hlt
        have hf0 := hrow.frozen k
        clear hc hmk
        go_wp2
        go_roundw
        case rel => exact ⟨k + 1, fun j => if j = k then z k else g j, by omega, by go_num, hbel.setCell (Nat.le_refl _) _, rowIs_setv hrow _ _ _ (fun j _ => by by_cases e : j = k <;> simp [e]), fun j hj => by
          by_cases e : j = k
          · simp [e]
          · simp [e]; exact hg j (by omega)⟩
        case measure => simp [intOf]; omega
      · go_wp2
        go_ret
        exact ⟨_, rfl, hbel, fun _ => ⟨rfl, hrow.congr (fun j hj => by rw [hg j (by omega)])⟩⟩
  · obtain rfl : len = 0 := by omega
    rcases h with ⟨rfl, _, rfl⟩ | ⟨x, rfl, _, _⟩
    · go_enter Try.func8, Try.ntmps8
      go_wp2
      go_ret
      exact ⟨_, rfl, Below.refl _ _, fun h => absurd h (by omega)⟩
    · have hmk0 : ∀ w, (Instr.makeSlice 22 (.int .i64 0) (.int .i64 0)).run Try.prog w = .ok (.slice (some ⟨w.heap.size, 0, none⟩) 0 0) (w.alloc (.cells (madeCells #[.int .i64 0] 0) 3)) := fun w => hmk w
      clear hmk
      go_enter Try.func8, Try.ntmps8
      go_wp2
      refine wp_loop_rounds 1 ?_
      rw [rounds_succ]
      go_wp2
      go_ret
      exact ⟨_, rfl, (Below.refl _ _).alloc (Nat.le_refl _) _, fun h => absurd h (by omega)⟩

set_option maxHeartbeats 400000 in
theorem cloneBools_any (a : Option Addr) (len cap : Nat) (z : Nat → Bool) (w : World) (hm : len ≤ 1048576) (h : IsIn w a len cap (fun i => .bool (z i))) :
    Calls Try.prog 9 #[.slice a len cap] w fun e w' => ClonePost 4 len (fun i => .bool (z i)) w e w' := by
  have hmk := run_make_row' (P := Try.prog) 23 4 (.bool false) 1 Try.underlying23 Try.info4 rfl .i64 .i64 len (by omega) (by omega)
  have q23 : ∀ (w : World) (a : Option Addr) (n c n' c' : Nat), (binOp .eql 23 (.slice a n c) (.slice none n' c')).run Try.prog w = .ok (.bool a.isNone) w := fun w a n c n' c' => Lib.run_eql_slice_nil w _ _ a n c n' c' Try.underlying23
  by_cases hl : 0 < len
  · obtain ⟨b, off, rfl, hb, hc⟩ := h.at hl
    clear h
    go_enter Try.func9, Try.ntmps9
    go_wp2
    go_loopw [4] (fun i wr => ∃ (k : Nat) (g : Nat → Bool), k ≤ len ∧ i = .int .i64 k ∧ Below w.heap.size w wr ∧ wr.rowIs w.heap.size 4 len (fun j => .bool (g j)) ∧ ∀ j, j < k → g j = z j) (fun i _ => len - (intOf i).toNat)
    case atStart => exact ⟨0, fun _ => false, Nat.zero_le _, rfl, (Below.refl _ _).alloc (Nat.le_refl _) _, World.rowIs_made w (.bool false) len 4, fun j hj => by omega⟩
    case round =>
      obtain ⟨k, g, hk, rfl, hbel, hrow, hg⟩ := hrel
      by_cases hlt : k < len
      · have hck : wr.cell? ⟨b, off + k, none⟩ = some (.bool (z k)) := (hbel.cell hb).trans (hc k hlt)
        have hw0 := hrow.cell hlt
        have hf0 := hrow.frozen k
        clear hc hmk
        go_wp2
        go_roundw
        case rel => exact ⟨k + 1, fun j => if j = k then z k else g j, by omega, by go_num, hbel.setCell (Nat.le_refl _) _, rowIs_setv hrow _ _ _ (fun j _ => by by_cases e : j = k <;> simp [e]), fun j hj => by
          by_cases e : j = k
          · simp [e]
          · simp [e]; exact hg j (by omega)⟩
        case measure => simp [intOf]; omega
      · go_wp2
        go_ret
        exact ⟨_, rfl, hbel, fun _ => ⟨rfl, hrow.congr (fun j hj => by rw [hg j (by omega)])⟩⟩
  · obtain rfl : len = 0 := by omega
    rcases h with ⟨rfl, _, rfl⟩ | ⟨x, rfl, _, _⟩
    · go_enter Try.func9, Try.ntmps9
      go_wp2
      go_ret
      exact ⟨_, rfl, Below.refl _ _, fun h => absurd h (by omega)⟩
    · have hmk0 : ∀ w, (Instr.makeSlice 23 (.int .i64 0) (.int .i64 0)).run Try.prog w = .ok (.slice (some ⟨w.heap.size, 0, none⟩) 0 0) (w.alloc (.cells (madeCells #[.bool false] 0) 4)) := fun w => hmk w
      clear hmk
      go_enter Try.func9, Try.ntmps9
      go_wp2
      refine wp_loop_rounds 1 ?_
      rw [rounds_succ]
      go_wp2
      go_ret
      exact ⟨_, rfl, (Below.refl _ _).alloc (Nat.le_refl _) _, fun h => absurd h (by omega)⟩

end Go.Proofs.Qxb6602223a
