/-
  BYTES OF THE CALL's OWN, APPENDED TO: 'Own'; the law for append in the walk and inside a region that draws; cloneBytes once more; equalBytes.
-/
import Derived.Test.Qxb6000034aBytes
import Derived.Deep.RegionLaw
import Derived.Deep.QuietTactic
import Derived.BigQuiet
import Derived.BigRegion
namespace Go.Proofs.Qxb6000034a
open Go.RowKit

/-- A byte as a cell. -/
def bv (c : Nat) : Value := .int .u8 (c : Int)

/-- The slice v holds the bytes l, in memory of the call's own from block 'base' on (or it is nil, and l is empty). -/
def Own (w : World) (base : Nat) (v : Value) (l : List Nat) : Prop := w.ownsRow base 5 1 v l.length (l.map bv)

theorem Own.alloc {w : World} {base : Nat} {v : Value} {l : List Nat} (h : Own w base v l) (o : Obj) : Own (w.alloc o) base v l := World.ownsRow.alloc h o
theorem Own.drew {w : World} {base : Nat} {v : Value} {l : List Nat} (h : Own w base v l) : Own w.drew base v l := World.ownsRow.drew h

/-- Its shape. -/
theorem Own.form {w : World} {base : Nat} {v : Value} {l : List Nat} (h : Own w base v l) (hl : 0 < l.length) :
    ∃ g cap, v = .slice (some ⟨g, 0, none⟩) l.length cap ∧ base ≤ g ∧ g < w.heap.size ∧ l.length ≤ cap ∧ cap ≤ maxLen ∧ ∀ i, i < l.length → w.cell? ⟨g, i, none⟩ = some (bv (l.getD i 0)) := by
  obtain ⟨h1, h2⟩ := h
  rcases h2 with ⟨_, h0⟩ | ⟨g, cap, cur, hv, hb, hh, hn, hc, hs, ht⟩
  · omega
  · refine ⟨g, cap, hv, hb, lt_of_block hh, hn, hc, fun i hi => ?_⟩
    have hi' : i < cur.size := by omega
    have e := congrArg (fun x => x[i]?) ht
    simp only [Nat.mul_one] at e
    rw [List.getElem?_take_of_lt hi, List.getElem?_map] at e
    rw [cell_of_row w g i cur 5 (0, 0) hh, ← Array.getElem?_toList, e, List.getD_eq_getElem?_getD, List.getElem?_eq_getElem hi]
    rfl

theorem Own.slice {w : World} {base : Nat} {v : Value} {l : List Nat} (h : Own w base v l) : ∃ ao cap, v = .slice ao l.length cap := by
  obtain ⟨h1, h2⟩ := h
  rcases h2 with ⟨hv, h0⟩ | ⟨g, cap, cur, hv, _⟩
  · exact ⟨none, 0, by rw [hv, h0]⟩
  · exact ⟨_, cap, hv⟩

theorem Own.block {w : World} {base : Nat} {v : Value} {l : List Nat} (h : Own w base v l) : ∀ k, v.ownBlock = some k → base ≤ k := by
  intro k hk
  obtain ⟨h1, h2⟩ := h
  rcases h2 with ⟨rfl, h0⟩ | ⟨g, cap, cur, rfl, hb, _⟩
  · simp [Value.ownBlock] at hk
  · simp [Value.ownBlock] at hk; omega

/-- What lies below its base may turn as it will: another call's memory above it too, as long as its own block stands. -/
theorem Own.later {w w' : World} {base B : Nat} {v : Value} {l : List Nat} (h : Own w base v l) (hb : Below B w w') (hB : w.heap.size ≤ B) : Own w' base v l := by
  obtain ⟨h1, h2⟩ := h
  refine ⟨h1, ?_⟩
  rcases h2 with h2 | ⟨g, cap, cur, hv, hbg, hh, r⟩
  · exact .inl h2
  · exact .inr ⟨g, cap, cur, hv, hbg, by rw [hb.block g (Nat.lt_of_lt_of_le (lt_of_block hh) hB)]; exact hh, r⟩

theorem own_of_row {w : World} {base g len : Nat} {f : Nat → Nat} (h : w.rowIs g 5 len (fun i => .int .u8 (f i : Int))) (hb : base ≤ g) (hm : len ≤ maxLen) : Own w base (.slice (some ⟨g, 0, none⟩) len len) ((List.range len).map f) := by
  obtain ⟨c, hh, hs, hc⟩ := h
  unfold Own
  refine ⟨by simp, .inr ⟨g, len, c, by simp, hb, hh, by simp, hm, by simpa using hs, ?_⟩⟩
  apply List.ext_getElem?
  intro i
  by_cases hi : i < len
  · have h2 := hc i hi
    rw [List.getElem?_take_of_lt (by simp; omega), Array.getElem?_toList, h2]
    simp [hi, bv]
  · rw [List.getElem?_eq_none (by simp; omega), List.getElem?_eq_none (by simp; omega)]

theorem own_nil (w : World) (base : Nat) : Own w base (.slice none 0 0) [] := ⟨rfl, .inl ⟨rfl, rfl⟩⟩

theorem oneCell_bv (l : List Nat) : ∀ u ∈ l.map bv, u.oneCell' = true := by
  intro u hu
  obtain ⟨c, _, rfl⟩ := List.mem_map.1 hu
  rfl

/-- append, its run. -/
theorem run_app (w : World) (ty : TypeId) (base : Nat) (v : Value) (l : List Nat) (hown : Own w base v l) (ad : Addr) (c : Nat) (news : List Nat) (hnews : ∀ j u, (news.map bv)[j]? = some u → w.cell? (ad.add j) = some u)
    (hb : l.length + news.length ≤ 1099511627776) (hbase : base ≤ w.heap.size) :
    ∃ v' w', (Builtin.append_ #[22, 22] ty #[v, .slice (some ad) news.length c]).run Try.prog w = .ok v' w' ∧ Own w' base v' (l ++ news) ∧ Below base w w' := by
  obtain ⟨i0, hi, hz0, hz1, hz2⟩ := info_parts Try.info5
  obtain ⟨v', w', hr, h1, h2, _⟩ := run_append_own (P := Try.prog) w base 22 ty 5 i0 (.int .u8 0) 1 1 Try.underlying22 hi hz0 hz1 hz2 rfl (by decide) v l.length (l.map bv) hown ad news.length c (news.map bv) (by simp) hnews (oneCell_bv news) (by unfold maxLen; omega) (by omega) hbase
  refine ⟨v', w', hr, ?_, (Below.refl _ _).grown h2 hbase hown.block⟩
  unfold Own
  rw [List.length_append, List.map_append]
  exact h1

/-- append, as a law for the walk. -/
theorem wpList_app {ops : Array Oper} {rest : List Oper} {o : Oper} {a : Act} {Q : Exit → Act → World → Prop} (w : World) (hgd : o.guard = none) (s x : Operand)
    (ho : o.op = .call { callee := .builtin .append, args := #[s, x], argTypes := #[22, 22] })
    (base : Nat) (v : Value) (l : List Nat) (hs : a.eval s = v) (hown : Own w base v l) (ad : Addr) (c : Nat) (news : List Nat) (hx : a.eval x = .slice (some ad) news.length c)
    (hnews : ∀ j u, (news.map bv)[j]? = some u → w.cell? (ad.add j) = some u) (hb : l.length + news.length ≤ 1099511627776) (hbase : base ≤ w.heap.size)
    (h : ∀ v' w', Own w' base v' (l ++ news) → Below base w w' → wpList Try.prog ops Q rest (a.put o.dst v') w') : wpList Try.prog ops Q (o :: rest) a w := by
  refine wpList_plain hgd fun K hK => ?_
  obtain ⟨v', w', hr, h1, h2⟩ := run_app w o.type base v l hown ad c news hnews hb hbase
  unfold Oper.wp execOp
  simp only [ho, resolve, invoke, builtin, Sem.run_bind, Sem.run_pure, Result.andThen_ok, List.map_toArray, List.map_cons, List.map_nil, hs, hx, hr]
  exact hK _ _ (h v' w' h1 h2)

/-- append, as one step of a region that draws. -/
theorem step_app {ops : Array Oper} {o : Oper} {a : Act} {w : World} {K : Act → World → Prop} {Q : Exit → Act → World → Prop} {E : Prop} (hgd : o.guard = none) (s x : Operand)
    (ho : o.op = .call { callee := .builtin .append, args := #[s, x], argTypes := #[22, 22] })
    (base : Nat) (v : Value) (l : List Nat) (hs : a.eval s = v) (hown : Own w base v l) (ad : Addr) (c : Nat) (news : List Nat) (hx : a.eval x = .slice (some ad) news.length c)
    (hnews : ∀ j u, (news.map bv)[j]? = some u → w.cell? (ad.add j) = some u) (hb : l.length + news.length ≤ 1099511627776) (hbase : base ≤ w.heap.size)
    (h : ∀ v' w', Own w' base v' (l ++ news) → Below base w w' → K (a.put o.dst v') w') : if Region.wanted o (yielded ops a.tmps) = true then Oper.wp Try.prog o a w K Q else E := by
  have hw : Region.wanted o (yielded ops a.tmps) = true := by simp [Region.wanted, hgd]
  rw [if_pos hw]
  obtain ⟨v', w', hr, h1, h2⟩ := run_app w o.type base v l hown ad c news hnews hb hbase
  unfold Oper.wp execOp
  simp only [ho, resolve, invoke, builtin, Sem.run_bind, Sem.run_pure, Result.andThen_ok, List.map_toArray, List.map_cons, List.map_nil, hs, hx, hr]
  exact h v' w' h1 h2

end Go.Proofs.Qxb6000034a
