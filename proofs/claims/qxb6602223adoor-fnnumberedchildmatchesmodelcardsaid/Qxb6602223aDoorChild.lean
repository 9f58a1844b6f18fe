/-
  THE WALK OF numberedChild AND OF ITS SHIM, over the shelf's contracts for strings.LastIndexByte and strconv.ParseUint.
-/
import Derived.Test.Qxb6602223aDoorRows
import Derived.Test.Qxb6602223aDoorShelf
import Derived.Test.Qxb6602223aDoorPlain
import Derived.WalkKit
import Derived.WalkSpells
import Derived.WalkLawsBesides
namespace Go.Proofs.Qxb6602223aDoor
open Go.RowKit Go.Shelf

/-- What the walks are told of the two sentinels of strconv: each holds some error. -/
def Sents (w : World) : Prop :=
  (∃ t p, w.var? Tryd.prog "strconv.ErrSyntax" = some #[.iface t p]) ∧ (∃ t p, w.var? Tryd.prog "strconv.ErrRange" = some #[.iface t p]) ∧ 2 < w.heap.size

theorem gSyn : Tryd.prog.globalNamed "strconv.ErrSyntax" = some 1 := by kernel_rfl
theorem gRan : Tryd.prog.globalNamed "strconv.ErrRange" = some 2 := by kernel_rfl

theorem Sents.later {w w' : World} (h : Sents w) (hb : Below w.heap.size w w') : Sents w' := by
  obtain ⟨⟨t, p, h1⟩, ⟨u, q, h2⟩, h3⟩ := h
  exact ⟨⟨t, p, var?_below hb gSyn (by omega) h1⟩, ⟨u, q, var?_below hb gRan (by omega) h2⟩, Nat.lt_of_lt_of_le h3 hb.size⟩

theorem below_bytes (w : World) (s : ByteArray) : Below w.heap.size w (Lib.bytesWorld w 5 s) := Lib.bytesWorld_below _ _ _

/-- strconv.ParseUint(s, 10, 64) at a string that it refuses: some number and an error that is not nil. -/
def BadPost (w : World) (e : Ending) (w' : World) : Prop :=
  ∃ (n : Int) (a : Addr), e = .returned (.tuple #[.int .u64 n, .iface 40 (.pointer (some a))]) ∧ Below w.heap.size w w'

theorem parse_bad (s : ByteArray) (hs : s.size ≤ 1048576) (h : ∀ u, Lib.parseUintB 64 s.data.toList ≠ .ok u) (w : World) (hv : Sents w) :
    Calls Tryd.prog 16 #[.string s, .int .i64 10, .int .i64 64] w fun e w' => BadPost w e w' := by
  obtain ⟨⟨t, p, h1⟩, ⟨u, q, h2⟩, h3⟩ := hv
  cases hp : Lib.parseUintB 64 s.data.toList
  · exact absurd hp (h _)
  · refine (Any.strconv_ParseUint_10_at64_syntax_var Tryd.laysPu14 s (by omega) hp t p w h1).mono ?_
    rintro e w' ⟨N, rfl, _, _, hb⟩
    exact ⟨_, _, rfl, hb⟩
  · refine (Any.strconv_ParseUint_10_at64_range_var Tryd.laysPu14 s (by omega) hp u q w h2).mono ?_
    rintro e w' ⟨N, rfl, _, _, hb⟩
    exact ⟨_, _, rfl, hb⟩

def GoodPost (u : Nat) (w : World) (e : Ending) (w' : World) : Prop :=
  e = .returned (.tuple #[.int .u64 u, .nilIface]) ∧ Below w.heap.size w w'

theorem parse_good (s : ByteArray) (hs : s.size ≤ 1048576) (u : Nat) (h : Lib.parseUintB 64 s.data.toList = .ok u) (w : World) :
    Calls Tryd.prog 16 #[.string s, .int .i64 10, .int .i64 64] w fun e w' => GoodPost u w e w' := by
  refine (Tryd.strconv_ParseUint_10_at64_ok s (by omega) u h w).mono ?_
  rintro e w' ⟨rfl, hw⟩
  refine ⟨rfl, ?_⟩
  rcases hw with rfl | rfl
  · exact Below.refl _ _
  · exact below_bytes _ _

theorem len_data (s : ByteArray) : s.data.toList.length = s.size := by rw [Array.length_toList]; rfl
theorem headD_get (l : List UInt8) (h : 0 < l.length) : l.headD 0 = l[0]'h := by
  cases l with
  | nil => simp at h
  | cons x r => rfl
theorem head_data (s : ByteArray) (h : 0 < s.size) : s.data.toList.headD 0 = s[0]'h := by
  obtain ⟨d⟩ := s
  have h' : 0 < d.size := h
  show d.toList.headD 0 = d[0]
  rw [← Array.getElem_toList (h := h')]
  exact headD_get _ _

/-- What numberedChild hands back. -/
def ChildPost (p : ByteArray) (n : Nat) (ok : Bool) (w : World) (e : Ending) (w' : World) : Prop :=
  e = .returned (.tuple #[.string p, .int .u64 n, .bool ok]) ∧ Below w.heap.size w w'

set_option maxHeartbeats 400000 in
/-- No slash: refused. -/
theorem child_none (s : ByteArray) (hs : s.size ≤ 1048576) (hl : Lib.lastIndexByte s 47 = -1) (w : World) :
    Calls Tryd.prog 14 #[.string s] w fun e w' => ChildPost ByteArray.empty 0 false w e w' := by
  have HL : Hid (Lib.lastIndexByte s 47 = -1) := hl
  clear hl
  go_enter Tryd.func14, Tryd.ntmps14
  go_wp2_with fail
  refine (Tryd.strings_LastIndexByte s 47 (by omega) w).mono ?_
  rintro e w' ⟨rfl, rfl⟩
  rw [HL.out]
  go_wp2
  go_ret3
  exact ⟨rfl, Below.refl _ _⟩

set_option maxHeartbeats 400000 in
/-- A slash, and behind the last one what ParseUint refuses: refused. -/
theorem child_bad (s : ByteArray) (hs : s.size ≤ 1048576) (i : Nat) (hi : i < s.size) (hl : Lib.lastIndexByte s 47 = i) (h : ∀ u, Lib.parseUintB 64 (s.extract (i + 1) s.size).data.toList ≠ .ok u) (w : World) (hv : Sents w) :
    Calls Tryd.prog 14 #[.string s] w fun e w' => ChildPost ByteArray.empty 0 false w e w' := by
  have HL : Hid (Lib.lastIndexByte s 47 = i) := hl
  have P := parse_bad (s.extract (i + 1) s.size) (by simp; omega) h w hv
  clear hl h
  go_enter Tryd.func14, Tryd.ntmps14
  go_wp2_with fail
  refine (Tryd.strings_LastIndexByte s 47 (by omega) w).mono ?_
  rintro e w' ⟨rfl, rfl⟩
  rw [HL.out]
  go_wp2_with fail
  refine P.mono ?_
  clear P
  rintro e w1 ⟨n, a, rfl, hb⟩
  go_wp2
  go_ret3
  exact ⟨rfl, hb⟩

set_option maxHeartbeats 400000 in
/-- A slash, behind the last one a numeral within 64 bits that begins with a nought and has more digits: refused. -/
theorem child_lead (s : ByteArray) (hs : s.size ≤ 1048576) (i : Nat) (hi : i < s.size) (hl : Lib.lastIndexByte s 47 = i) (u : Nat) (h : Lib.parseUintB 64 (s.extract (i + 1) s.size).data.toList = .ok u) (h0 : Lead0 (s.extract (i + 1) s.size).data.toList) (w : World) :
    Calls Tryd.prog 14 #[.string s] w fun e w' => ChildPost ByteArray.empty 0 false w e w' := by
  have HL : Hid (Lib.lastIndexByte s 47 = i) := hl
  have P := parse_good (s.extract (i + 1) s.size) (by simp; omega) u h w
  clear hl h
  go_enter Tryd.func14, Tryd.ntmps14
  go_wp2_with fail
  refine (Tryd.strings_LastIndexByte s 47 (by omega) w).mono ?_
  rintro e w' ⟨rfl, rfl⟩
  rw [HL.out]
  go_wp2_with fail
  refine P.mono ?_
  clear P
  generalize s.extract (i + 1) s.size = nm at *
  rintro e w1 ⟨rfl, hb⟩
  obtain ⟨h1, h2⟩ := h0
  rw [len_data] at h1
  rw [head_data nm (by omega)] at h2
  have h3 : (((nm[0]'(by omega)).toNat : Int) == 48) = true := beq_iff_eq.2 (by omega)
  have h4 : (1 : Int) < nm.size := by omega
  clear h2
  go_wp2
  go_ret3
  exact ⟨rfl, hb⟩

set_option maxHeartbeats 400000 in
/-- A slash, behind the last one a canonical numeral within 64 bits: taken. -/
theorem child_ok (s : ByteArray) (hs : s.size ≤ 1048576) (i : Nat) (hi : i < s.size) (hl : Lib.lastIndexByte s 47 = i) (u : Nat) (h : Lib.parseUintB 64 (s.extract (i + 1) s.size).data.toList = .ok u) (h0 : ¬ Lead0 (s.extract (i + 1) s.size).data.toList) (w : World) :
    Calls Tryd.prog 14 #[.string s] w fun e w' => ChildPost (s.extract 0 i) u true w e w' := by
  have HL : Hid (Lib.lastIndexByte s 47 = i) := hl
  have P := parse_good (s.extract (i + 1) s.size) (by simp; omega) u h w
  clear hl h
  go_enter Tryd.func14, Tryd.ntmps14
  go_wp2_with fail
  refine (Tryd.strings_LastIndexByte s 47 (by omega) w).mono ?_
  rintro e w' ⟨rfl, rfl⟩
  rw [HL.out]
  go_wp2_with fail
  refine P.mono ?_
  clear P
  generalize s.extract (i + 1) s.size = nm at *
  rintro e w1 ⟨rfl, hb⟩
  by_cases h1 : 1 < nm.size
  · have h3 : (((nm[0]'(by omega)).toNat : Int) == 48) = false := by
      refine beq_eq_false_iff_ne.2 (fun e => h0 ⟨by rw [len_data]; exact h1, ?_⟩)
      rw [head_data nm (by omega)]
      omega
    have h4 : (1 : Int) < nm.size := by omega
    clear h0
    go_wp2
    go_ret3
    exact ⟨rfl, hb⟩
  · have h4 : (nm.size : Int) ≤ 1 := by omega
    clear h0
    go_wp2
    go_ret3
    exact ⟨rfl, hb⟩

/-- The shim hands on what numberedChild hands back. -/
theorem shim (s : ByteArray) (p : ByteArray) (n : Nat) (ok : Bool) (w : World) (h : Calls Tryd.prog 14 #[.string s] w fun e w' => ChildPost p n ok w e w') :
    Calls Tryd.prog 10 #[.string s] w fun e w' => ChildPost p n ok w e w' := by
  have H : Hid (Calls Tryd.prog 14 #[.string s] w fun e w' => ChildPost p n ok w e w') := h
  clear h
  go_enter Tryd.func10, Tryd.ntmps10
  go_wp2_with fail
  refine H.out.mono ?_
  rintro e w1 ⟨rfl, hb⟩
  go_wp2
  go_ret3
  exact ⟨rfl, hb⟩

end Go.Proofs.Qxb6602223aDoor
