/-
  THE WALK OF hex4 AND OF ITS SHIM.
-/
import Derived.Test.Qxb6000034aBytes
import Derived.Laws.DeepBits32
namespace Go.Proofs.Qxb6000034a
open Go.RowKit

/-- The value of a hex digit of either case. -/
def hexV (c : Nat) : Option Nat :=
  if 48 ≤ c ∧ c ≤ 57 then some (c - 48) else if 97 ≤ c ∧ c ≤ 102 then some (c - 87) else if 65 ≤ c ∧ c ≤ 70 then some (c - 55) else none

/-- What the first k bytes spell in hex. -/
def hacc (f : Nat → Nat) : Nat → Option Nat
  | 0 => some 0
  | k + 1 => match hacc f k, hexV (f k) with
    | some u, some d => some (u * 16 + d)
    | _, _ => none

theorem hexV_lt {c d : Nat} (h : hexV c = some d) : d < 16 := by
  unfold hexV at h
  split at h
  · cases h; omega
  · split at h
    · cases h; omega
    · split at h
      · cases h; omega
      · cases h

theorem hacc_lt (f : Nat → Nat) : ∀ k u, hacc f k = some u → u < 16 ^ k := by
  intro k
  induction k with
  | zero => intro u h; cases h; simp
  | succ k ih =>
    intro u h
    unfold hacc at h
    split at h
    · rename_i u' d h1 h2
      cases h
      have h3 := ih u' h1
      have h4 := hexV_lt h2
      rw [Nat.pow_succ]
      omega
    · cases h

theorem hacc_step {f : Nat → Nat} {k u d : Nat} (h : hacc f k = some u) (hd : hexV (f k) = some d) : hacc f (k + 1) = some (u * 16 + d) := by
  unfold hacc
  rw [h, hd]

theorem hacc_stuck {f : Nat → Nat} {k : Nat} (h : hacc f k = none) : ∀ n, hacc f (k + n) = none := by
  intro n
  induction n with
  | zero => exact h
  | succ n ih => show hacc f (k + n + 1) = none; unfold hacc; rw [ih]

theorem hacc_none {f : Nat → Nat} {k n : Nat} (hk : k < n) (h : hexV (f k) = none) : hacc f n = none := by
  have h1 : hacc f (k + 1) = none := by
    unfold hacc
    rw [h]
    cases hacc f k <;> rfl
  have := hacc_stuck h1 (n - (k + 1))
  rwa [show k + 1 + (n - (k + 1)) = n from by omega] at this

theorem or16 (u d : Nat) (hu : u < 4096) (hd : d < 16) : bits .or .i32 ((u : Int) * 16) (d : Int) = ((u * 16 + d : Nat) : Int) := by
  rw [show ((u : Int) * 16) = ((u * 16 : Nat) : Int) from by omega]
  show IntKind.i32.wrap ((BitVec.ofInt 32 ((u * 16 : Nat) : Int) ||| BitVec.ofInt 32 (d : Int)).toNat : Int) = _
  have h := Nat.two_pow_add_eq_or_of_lt (i := 4) (b := d) hd u
  rw [BitVec.toNat_or, ofInt_u32 (u * 16) (by omega), ofInt_u32 d (by omega), Nat.mul_comm u 16, show (16 : Nat) = 2 ^ 4 from rfl, ← h]
  have h2 : (2 : Nat) ^ 4 = 16 := rfl
  exact wrap_i32_small _ (by omega) (by omega)

def Hex4Post (f : Nat → Nat) (w : World) (e : Ending) (w' : World) : Prop :=
  w' = w ∧ ((∃ u, hacc f 4 = some u ∧ e = .returned (.tuple #[.int .i32 (u : Int), .bool true])) ∨ (hacc f 4 = none ∧ e = .returned (.tuple #[.int .i32 0, .bool false])))

set_option maxHeartbeats 400000 in
theorem hex4_short (a : Option Addr) (len cap : Nat) (h : len < 4) (w : World) :
    Calls Try.prog 22 #[.slice a len cap] w fun e w' => e = .returned (.tuple #[.int .i32 0, .bool false]) ∧ w' = w := by
  go_enter Try.func22, Try.ntmps22
  go_wp2
  go_ret2
  exact ⟨rfl, rfl⟩

set_option maxHeartbeats 1000000 in
theorem hex4_any (b off len cap : Nat) (f : Nat → Nat) (h4 : 4 ≤ len) (hlc : len ≤ cap) (hm : cap ≤ 140737488355328) (hf : ∀ i, i < 4 → f i < 256) (w : World) (hc : ∀ i, i < 4 → w.cell? ⟨b, off + i, none⟩ = some (.int .u8 (f i : Int))) :
    Calls Try.prog 22 #[.slice (some ⟨b, off, none⟩) len cap] w fun e w' => Hex4Post f w e w' := by
  go_enter Try.func22, Try.ntmps22
  go_wp2
  go_loop [4, 13] (fun x i => ∃ k u : Nat, k ≤ 4 ∧ i = .int .i64 k ∧ x = .int .i32 (u : Int) ∧ hacc f k = some u) (fun _ i => 4 - (intOf i).toNat)
  case atStart => exact ⟨0, 0, by omega, rfl, rfl, rfl⟩
  case round =>
    obtain ⟨k, u, hk, rfl, rfl, hu⟩ := hrel
    have hul := hacc_lt f k u hu
    by_cases hlt : k < 4
    · have ck := hc k hlt
      have fk := hf k hlt
      have hub : u < 16 ^ 3 := Nat.lt_of_lt_of_le hul (Nat.pow_le_pow_right (by omega) (by omega))
      have hub' : u < 4096 := hub
      have HU : Hid (hacc f k = some u) := hu
      clear hub hul hu hc hf
      by_cases c48 : 48 ≤ f k ∧ f k ≤ 57
      · obtain ⟨ca, cb⟩ := c48
        have HO : Hid (bits .or .i32 ((u : Int) * 16) ((f k : Int) - 48) = ((u * 16 + (f k - 48) : Nat) : Int)) := by
          have := or16 u (f k - 48) hub' (by omega)
          rw [show ((f k : Int) - 48) = ((f k - 48 : Nat) : Int) from by omega]
          exact this
        have HX : Hid (hacc f (k + 1) = some (u * 16 + (f k - 48))) := hacc_step HU.out (by unfold hexV; rw [if_pos ⟨ca, cb⟩])
        go_wp2
        go_round
        case rel => exact ⟨k + 1, u * 16 + (f k - 48), by omega, by go_num, by rw [HO.out], HX.out⟩
        case measure => simp [intOf]; omega
      by_cases c87 : 97 ≤ f k ∧ f k ≤ 102
      · obtain ⟨ca, cb⟩ := c87
        have HO : Hid (bits .or .i32 ((u : Int) * 16) ((f k : Int) - 87) = ((u * 16 + (f k - 87) : Nat) : Int)) := by
          have := or16 u (f k - 87) hub' (by omega)
          rw [show ((f k : Int) - 87) = ((f k - 87 : Nat) : Int) from by omega]
          exact this
        have HX : Hid (hacc f (k + 1) = some (u * 16 + (f k - 87))) := hacc_step HU.out (by unfold hexV; rw [if_neg (by omega), if_pos ⟨ca, cb⟩])
        go_wp2
        go_round
        case rel => exact ⟨k + 1, u * 16 + (f k - 87), by omega, by go_num, by rw [HO.out], HX.out⟩
        case measure => simp [intOf]; omega
      by_cases c55 : 65 ≤ f k ∧ f k ≤ 70
      · obtain ⟨ca, cb⟩ := c55
        have HO : Hid (bits .or .i32 ((u : Int) * 16) ((f k : Int) - 55) = ((u * 16 + (f k - 55) : Nat) : Int)) := by
          have := or16 u (f k - 55) hub' (by omega)
          rw [show ((f k : Int) - 55) = ((f k - 55 : Nat) : Int) from by omega]
          exact this
        have HX : Hid (hacc f (k + 1) = some (u * 16 + (f k - 55))) := hacc_step HU.out (by unfold hexV; rw [if_neg (by omega), if_neg (by omega), if_pos ⟨ca, cb⟩])
        go_wp2
        go_round
        case rel => exact ⟨k + 1, u * 16 + (f k - 55), by omega, by go_num, by rw [HO.out], HX.out⟩
        case measure => simp [intOf]; omega
      have HN : Hid (hacc f 4 = none) := hacc_none (k := k) (by omega) (by unfold hexV; rw [if_neg c48, if_neg c87, if_neg c55])
      have hcase : (f k < 48 ∨ 57 < f k) ∧ (f k < 97 ∨ 102 < f k) ∧ (f k < 65 ∨ 70 < f k) := by omega
      clear c48 c87 c55
      rcases (show f k < 48 ∨ (57 < f k ∧ f k < 65) ∨ (70 < f k ∧ f k < 97) ∨ 102 < f k from by omega) with d | ⟨d1, d2⟩ | ⟨d1, d2⟩ | d
      all_goals
        clear hcase
        go_wp2
        go_ret2
        exact ⟨rfl, .inr ⟨HN.out, rfl⟩⟩
    · obtain rfl : k = 4 := by omega
      clear hc hf
      go_wp2
      go_ret2
      exact ⟨rfl, .inl ⟨u, hu, rfl⟩⟩

/-- The shim hands on what hex4 hands back. -/
theorem shim4 (a : Option Addr) (len cap : Nat) (f : Nat → Nat) (w : World) (h : Calls Try.prog 22 #[.slice a len cap] w fun e w' => Hex4Post f w e w') :
    Calls Try.prog 15 #[.slice a len cap] w fun e w' => Hex4Post f w e w' := by
  have H : Hid (Calls Try.prog 22 #[.slice a len cap] w fun e w' => Hex4Post f w e w') := h
  clear h
  go_enter Try.func15, Try.ntmps15
  go_wp2_with fail
  refine H.out.mono ?_
  rintro e w1 ⟨rfl, ⟨u, hu, rfl⟩ | ⟨hu, rfl⟩⟩
  · have HU : Hid (hacc f 4 = some u) := hu
    clear hu
    go_wp2
    go_ret2
    exact ⟨rfl, .inl ⟨u, HU.out, rfl⟩⟩
  · have HU : Hid (hacc f 4 = none) := hu
    clear hu
    go_wp2
    go_ret2
    exact ⟨rfl, .inr ⟨HU.out, rfl⟩⟩

theorem shim4_short (a : Option Addr) (len cap : Nat) (w : World) (h : len < 4) :
    Calls Try.prog 15 #[.slice a len cap] w fun e w' => e = .returned (.tuple #[.int .i32 0, .bool false]) ∧ w' = w := by
  go_enter Try.func15, Try.ntmps15
  go_wp2_with fail
  refine (hex4_short a len cap h w).mono ?_
  rintro e w1 ⟨rfl, rfl⟩
  go_wp2
  go_ret2
  exact ⟨rfl, rfl⟩

end Go.Proofs.Qxb6000034a
