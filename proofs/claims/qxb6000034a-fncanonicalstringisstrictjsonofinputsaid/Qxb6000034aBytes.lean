/-
  WHAT THE LAWS OVER BYTES SHARE: a slice of bytes that came in; cloneBytes; rows of the call's own.
-/
import Derived.Test.Qxb6000034aRows
import Derived.WalkKit
import Derived.WalkSpells
import Derived.WalkLawsBesides
import Derived.Deep.OwnRows
namespace Go.Proofs.Qxb6000034a
open Go.RowKit

/-- WHAT IS TOLD OF A SLICE THAT CAME IN: it is nil; or it leads to cells of which the first 'len' hold 'f 0', 'f 1', .. -/
def IsIn (w : World) (a : Option Addr) (len cap : Nat) (f : Nat → Value) : Prop :=
  (a = none ∧ len = 0 ∧ cap = 0) ∨
  ∃ x, a = some x ∧ len ≤ cap ∧ ∀ i, i < len → w.cell? (x.add i) = some (f i)

theorem Try.info5 : (Try.prog.info? 5).map (fun i => (i.zero, i.size, i.bytes)) = some (some (.int .u8 0), 1, 1) := by kernel_rfl

theorem add_plain' (b off i : Nat) : (⟨b, off, none⟩ : Addr).add i = ⟨b, off + i, none⟩ := by unfold Addr.add; split <;> simp_all

theorem IsIn.at {w : World} {a : Option Addr} {len cap : Nat} {f : Nat → Value} (h : IsIn w a len cap f) (hl : 0 < len) :
    ∃ b off, a = some ⟨b, off, none⟩ ∧ b < w.heap.size ∧ ∀ i, i < len → w.cell? ⟨b, off + i, none⟩ = some (f i) := by
  rcases h with ⟨_, h0, _⟩ | ⟨x, hx, _, hc⟩
  · omega
  · obtain ⟨b, off, spot⟩ := x
    have hs : spot = none := by simpa [Addr.add] using World.cell?_spot (hc 0 hl)
    subst hs
    have hc' : ∀ i, i < len → w.cell? ⟨b, off + i, none⟩ = some (f i) := fun i hi => by rw [← add_plain']; exact hc i hi
    exact ⟨b, off, hx, block_lt_of_cell (hc' 0 hl), hc'⟩

/-- The post of cloneBytes: a slice of the same length; where it has elements it lies in the new block 'w.heap.size'; nothing old has turned. -/
def ClonePost (ty : TypeId) (len : Nat) (f : Nat → Value) (w : World) (e : Ending) (w' : World) : Prop :=
  ∃ ao, e = .returned (.slice ao len len) ∧ Below w.heap.size w w' ∧ (0 < len → ao = some ⟨w.heap.size, 0, none⟩ ∧ w'.rowIs w.heap.size ty len f)

theorem rowIs_setv {w : World} {b : Nat} {t : TypeId} {n : Nat} {f : Nat → Value} (h : w.rowIs b t n f) (i : Nat) (v : Value) (g : Nat → Value) (hg : ∀ j, j < n → g j = if j = i then v else f j) :
    (w.setCell ⟨b, i, none⟩ v).rowIs b t n g := (h.set i v).congr (fun j hj => (hg j hj).symm)

set_option maxHeartbeats 400000 in
theorem cloneBytes_any (a : Option Addr) (len cap : Nat) (z : Nat → Nat) (w : World) (hm : len ≤ 1048576) (h : IsIn w a len cap (fun i => .int .u8 (z i : Int))) :
    Calls Try.prog 9 #[.slice a len cap] w fun e w' => ClonePost 5 len (fun i => .int .u8 (z i : Int)) w e w' := by
  have hmk := run_make_row' (P := Try.prog) 22 5 (.int .u8 0) 1 Try.underlying22 Try.info5 rfl .i64 .i64 len (by omega) (by omega)
  have q22 : ∀ (w : World) (a : Option Addr) (n c n' c' : Nat), (binOp .eql 22 (.slice a n c) (.slice none n' c')).run Try.prog w = .ok (.bool a.isNone) w := fun w a n c n' c' => Lib.run_eql_slice_nil w _ _ a n c n' c' Try.underlying22
  by_cases hl : 0 < len
  · obtain ⟨b, off, rfl, hb, hc⟩ := h.at hl
    clear h
    go_enter Try.func9, Try.ntmps9
    go_wp2
    go_loopw [4] (fun i wr => ∃ (k : Nat) (g : Nat → Nat), k ≤ len ∧ i = .int .i64 k ∧ Below w.heap.size w wr ∧ wr.rowIs w.heap.size 5 len (fun j => .int .u8 (g j : Int)) ∧ ∀ j, j < k → g j = z j) (fun i _ => len - (intOf i).toNat)
    case atStart => exact ⟨0, fun _ => 0, Nat.zero_le _, rfl, (Below.refl _ _).alloc (Nat.le_refl _) _, World.rowIs_made w (.int .u8 0) len 5, fun j hj => by omega⟩
    case round =>
      obtain ⟨k, g, hk, rfl, hbel, hrow, hg⟩ := hrel
      by_cases hlt : k < len
      · have hck : wr.cell? ⟨b, off + k, none⟩ = some (.int .u8 (z k : Int)) := (hbel.cell hb).trans (hc k hlt)
        have hw0 := hrow.cell hlt
        have hf0 := hrow.frozen k
        clear hc hmk
        go_wp2
        go_roundw
        case rel => exact ⟨k + 1, fun j => if j = k then z k else g j, by omega, by go_num, hbel.setCell (Nat.le_refl _) _, rowIs_setv hrow _ _ _ (fun j _ => by by_cases e : j = k <;> simp [e]), fun j hj => by
          by_cases e : j = k
          · simp [e]
          · simp [e]; exact hg j (by omega)⟩
        case measure => simp [intOf]; omega
      · go_wp2
        go_ret
        exact ⟨_, rfl, hbel, fun _ => ⟨rfl, hrow.congr (fun j hj => by rw [hg j (by omega)])⟩⟩
  · obtain rfl : len = 0 := by omega
    rcases h with ⟨rfl, _, rfl⟩ | ⟨x, rfl, _, _⟩
    · go_enter Try.func9, Try.ntmps9
      go_wp2
      go_ret
      exact ⟨_, rfl, Below.refl _ _, fun h => absurd h (by omega)⟩
    · have hmk0 : ∀ w, (Instr.makeSlice 22 (.int .i64 0) (.int .i64 0)).run Try.prog w = .ok (.slice (some ⟨w.heap.size, 0, none⟩) 0 0) (w.alloc (.cells (madeCells #[.int .u8 0] 0) 5)) := fun w => hmk w
      clear hmk
      go_enter Try.func9, Try.ntmps9
      go_wp2
      refine wp_loop_rounds 1 ?_
      rw [rounds_succ]
      go_wp2
      go_ret
      exact ⟨_, rfl, (Below.refl _ _).alloc (Nat.le_refl _) _, fun h => absurd h (by omega)⟩

theorem IsIn.later {w w' : World} {a : Option Addr} {len cap : Nat} {f : Nat → Value} (h : IsIn w a len cap f) (hb : Below w.heap.size w w') : IsIn w' a len cap f := by
  rcases h with h | ⟨x, hx, hl, hc⟩
  · exact .inl h
  · refine .inr ⟨x, hx, hl, fun i hi => ?_⟩
    have h1 := hc i hi
    rw [hb.cell (by exact block_lt_of_cell h1)]
    exact h1

theorem rowIs_later {B : Nat} {w w' : World} {b : Nat} {t : TypeId} {n : Nat} {f : Nat → Value} (h : w.rowIs b t n f) (hb : Below B w w') (hB : b < B) : w'.rowIs b t n f := h.of_block (hb.block b hB)

/-- The post of a law: it returns true, and nothing that was there has turned. -/
def LawPost (w : World) (e : Ending) (w' : World) : Prop := e = .returned (.bool true) ∧ Below w.heap.size w w'

/-- f with v at place i. -/
def upd (f : Nat → Nat) (i v : Nat) : Nat → Nat := fun j => if j = i then v else f j
theorem upd_same (f : Nat → Nat) (i v : Nat) : upd f i v i = v := by simp [upd]
theorem upd_ne (f : Nat → Nat) {i j : Nat} (v : Nat) (h : j ≠ i) : upd f i v j = f j := by simp [upd, h]

theorem row_upd {w : World} {b n : Nat} {g : Nat → Nat} (h : w.rowIs b 5 n (fun i => .int .u8 (g i : Int))) (i v : Nat) : (w.setCell ⟨b, i, none⟩ (.int .u8 (v : Int))).rowIs b 5 n (fun j => .int .u8 (upd g i v j : Int)) :=
  rowIs_setv h _ _ _ (fun j _ => by unfold upd; split <;> rfl)

end Go.Proofs.Qxb6000034a
