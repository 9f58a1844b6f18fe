/-
  appendCanonicalString OF NO BYTE AT ALL; its shim; cloneBytes and equalBytes once more.
-/
import Derived.Test.Qxb6000034aAppend
namespace Go.Proofs.Qxb6000034a
open Go.RowKit

set_option maxHeartbeats 400000 in
theorem app_zero (base cm : Nat) (sa : Option Addr) (v : Value) (l0 : List Nat) (w : World) (hl0 : l0.length ≤ 1048576) (hown : Own w base v l0) (hbase : base ≤ w.heap.size) :
    Calls Try.prog 20 #[v, .slice sa 0 cm] w fun e w' => AppPost base l0 [] w e w' := by
  go_enter Try.func20, Try.ntmps20
  go_wp2_with (at_builtin; refine wpList_app _ rfl _ _ rfl base v l0 rfl (hown.alloc _) ⟨w.heap.size, 0, none⟩ 1 [34] rfl (new_one _ _) (by simp; omega) (by simp; omega) ?_)
  intro v1 w1 hown1 bel1
  have belA : Below base w w1 := ((Below.refl _ _).alloc hbase _).trans bel1
  have hb1 : base ≤ w1.heap.size := Nat.le_trans hbase belA.size
  clear bel1 hown
  go_wp2
  refine wp_loop_rounds 1 ?_
  rw [rounds_succ]
  go_wp2_with (at_builtin; refine wpList_app _ rfl _ _ rfl base v1 (l0 ++ [34]) rfl (hown1.alloc _) ⟨w1.heap.size, 0, none⟩ 1 [34] rfl (new_one _ _) (by simp; omega) (by simp; omega) ?_)
  intro v2 w2 own2 bel2
  have belB : Below base w w2 := (belA.alloc hb1 _).trans bel2
  clear bel2 hown1
  go_wp2
  go_ret
  exact ⟨_, rfl, own2, belB⟩

theorem app_any (base m cm : Nat) (sa : Option Addr) (v : Value) (l0 : List Nat) (z : Nat → Nat) (w : World) (hm : m ≤ 1048576) (hl0 : l0.length ≤ 1048576) (hz : ∀ i, z i < 256) (hown : Own w base v l0) (hbase : base ≤ w.heap.size)
    (hrow : 0 < m → ∃ b, b < base ∧ sa = some ⟨b, 0, none⟩ ∧ w.rowIs b 5 m (fun i => .int .u8 (z i : Int))) :
    Calls Try.prog 10 #[v, .slice sa m cm] w fun e w' => AppPost base l0 ((List.range m).map z) w e w' := by
  have H : Hid (Calls Try.prog 20 #[v, .slice sa m cm] w fun e w' => AppPost base l0 ((List.range m).map z) w e w') := by
    by_cases hm0 : 0 < m
    · obtain ⟨b, hb, rfl, r⟩ := hrow hm0
      exact app_some base b m cm v l0 z w hm0 hm hl0 hz hown hbase hb r
    · obtain rfl : m = 0 := by omega
      exact app_zero base cm sa v l0 w hl0 hown hbase
  clear hrow hz hown
  go_enter Try.func10, Try.ntmps10
  go_wp2_with fail
  refine H.out.mono ?_
  rintro e w1 ⟨v', rfl, own, bel⟩
  go_wp2
  go_ret
  exact ⟨_, rfl, own, bel⟩

/-- cloneBytes: a copy of the call's own, or nil of nil. -/
def CloneOwn (len : Nat) (f : Nat → Nat) (w : World) (e : Ending) (w' : World) : Prop :=
  ∃ ao, e = .returned (.slice ao len len) ∧ Below w.heap.size w w' ∧ ((ao = none ∧ len = 0) ∨ (ao = some ⟨w.heap.size, 0, none⟩ ∧ w'.rowIs w.heap.size 5 len (fun i => .int .u8 (f i : Int))))

set_option maxHeartbeats 400000 in
theorem cloneOwn_any (a : Option Addr) (len cap : Nat) (z : Nat → Nat) (w : World) (hm : len ≤ 1048576) (h : IsIn w a len cap (fun i => .int .u8 (z i : Int))) :
    Calls Try.prog 9 #[.slice a len cap] w fun e w' => CloneOwn len z w e w' := by
  by_cases hl : 0 < len
  · refine (cloneBytes_any a len cap z w hm h).mono ?_
    rintro e w' ⟨ao, rfl, bel, row⟩
    exact ⟨ao, rfl, bel, .inr (row hl)⟩
  · obtain rfl : len = 0 := by omega
    have q22 : ∀ (w : World) (a : Option Addr) (n c n' c' : Nat), (binOp .eql 22 (.slice a n c) (.slice none n' c')).run Try.prog w = .ok (.bool a.isNone) w := fun w a n c n' c' => Lib.run_eql_slice_nil w _ _ a n c n' c' Try.underlying22
    rcases h with ⟨rfl, _, rfl⟩ | ⟨x, rfl, _, _⟩
    · go_enter Try.func9, Try.ntmps9
      go_wp2
      go_ret
      exact ⟨_, rfl, Below.refl _ _, .inl ⟨rfl, rfl⟩⟩
    · have hmk0 : ∀ w, (Instr.makeSlice 22 (.int .i64 0) (.int .i64 0)).run Try.prog w = .ok (.slice (some ⟨w.heap.size, 0, none⟩) 0 0) (w.alloc (.cells (madeCells #[.int .u8 0] 0) 5)) :=
        fun w => run_make_row' (P := Try.prog) 22 5 (.int .u8 0) 1 Try.underlying22 Try.info5 rfl .i64 .i64 0 (by omega) (by omega) w
      go_enter Try.func9, Try.ntmps9
      go_wp2
      refine wp_loop_rounds 1 ?_
      rw [rounds_succ]
      go_wp2
      go_ret
      exact ⟨_, rfl, (Below.refl _ _).alloc (Nat.le_refl _) _, .inr ⟨rfl, (World.rowIs_made w (.int .u8 0) 0 5).congr (fun i hi => by omega)⟩⟩

/-- What a clone gives to a later reader. -/
theorem isIn_of_own {w : World} {ao : Option Addr} {len g : Nat} {f : Nat → Nat} (h : (ao = none ∧ len = 0) ∨ (ao = some ⟨g, 0, none⟩ ∧ w.rowIs g 5 len (fun i => .int .u8 (f i : Int)))) : IsIn w ao len len (fun i => .int .u8 (f i : Int)) := by
  rcases h with ⟨rfl, rfl⟩ | ⟨rfl, r⟩
  · exact .inl ⟨rfl, rfl, rfl⟩
  · exact .inr ⟨_, rfl, Nat.le_refl _, fun i hi => by rw [add_plain', Nat.zero_add]; exact r.cell hi⟩

set_option maxHeartbeats 400000 in
/-- equalBytes of two slices that hold the same. -/
theorem equal_any (a1 a2 : Option Addr) (len c1 c2 : Nat) (f : Nat → Nat) (w : World) (hm : len ≤ 1099511627776)
    (h : 0 < len → ∃ b1 o1 b2 o2, a1 = some ⟨b1, o1, none⟩ ∧ a2 = some ⟨b2, o2, none⟩ ∧ b1 < w.heap.size ∧ b2 < w.heap.size ∧ ∀ i, i < len → w.cell? ⟨b1, o1 + i, none⟩ = some (.int .u8 (f i : Int)) ∧ w.cell? ⟨b2, o2 + i, none⟩ = some (.int .u8 (f i : Int))) :
    Calls Try.prog 11 #[.slice a1 len c1, .slice a2 len c2] w fun e w' => LawPost w e w' := by
  by_cases hl : 0 < len
  · obtain ⟨b1, o1, b2, o2, rfl, rfl, l1, l2, hc⟩ := h hl
    clear h
    go_enter Try.func11, Try.ntmps11
    go_wp2
    go_loopw [5] (fun i wr => ∃ k : Nat, k ≤ len ∧ i = .int .i64 (k : Int) ∧ Below w.heap.size w wr) (fun i _ => len - (intOf i).toNat)
    case atStart => exact ⟨0, Nat.zero_le _, rfl, Below.refl _ _⟩
    case round =>
      obtain ⟨k, hk, rfl, bel⟩ := hrel
      by_cases hlt : k < len
      · have ca : wr.cell? ⟨b1, o1 + k, none⟩ = some (.int .u8 (f k : Int)) := by rw [bel.cell (by exact l1), (hc k hlt).1]
        have cb : wr.cell? ⟨b2, o2 + k, none⟩ = some (.int .u8 (f k : Int)) := by rw [bel.cell (by exact l2), (hc k hlt).2]
        clear hc
        go_wp2
        go_region
        go_wp2
        go_roundw
        case rel => exact ⟨k + 1, by omega, by go_num, bel.drew⟩
        case measure => simp [intOf]; omega
      · go_wp2
        go_ret
        exact ⟨rfl, bel⟩
  · obtain rfl : len = 0 := by omega
    go_enter Try.func11, Try.ntmps11
    go_wp2
    refine wp_loop_rounds 1 ?_
    rw [rounds_succ]
    go_wp2
    go_ret
    exact ⟨rfl, Below.refl _ _⟩

end Go.Proofs.Qxb6000034a
