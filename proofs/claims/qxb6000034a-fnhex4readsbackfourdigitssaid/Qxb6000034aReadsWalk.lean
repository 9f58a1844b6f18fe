/-
  THE WALK OF FnHex4ReadsBackFourDigits.
-/
import Derived.Test.Qxb6000034aHex4
namespace Go.Proofs.Qxb6000034a
open Go.RowKit

set_option maxHeartbeats 400000 in
theorem zz17_any (n : Int) (u : Bool) (a : Option Addr) (len cap : Nat) (w : World) (h0 : len ≤ maxLen) :
    Calls Try.prog 17 #[.int .i64 n, .bool u, .slice a len cap] w fun e w' => ∃ r : Bool, e = .returned (.bool r) ∧ w' = w := by
  unfold maxLen at h0
  go_enter Try.func17, Try.ntmps17
  go_wp2
  all_goals (go_ret; exact ⟨_, rfl, rfl⟩)

theorem up_get (d : Nat) (h : d < (⟨#[48, 49, 50, 51, 52, 53, 54, 55, 56, 57, 65, 66, 67, 68, 69, 70]⟩ : ByteArray).size) : hexV ((⟨#[48, 49, 50, 51, 52, 53, 54, 55, 56, 57, 65, 66, 67, 68, 69, 70]⟩ : ByteArray)[d]'h).toNat = some d := by
  have h' : d < 16 := h
  have key : ∀ i : Fin 16, hexV ((⟨#[48, 49, 50, 51, 52, 53, 54, 55, 56, 57, 65, 66, 67, 68, 69, 70]⟩ : ByteArray)[i.val]'i.isLt).toNat = some i.val := by decide +kernel
  exact key ⟨d, h'⟩
theorem lo_get (d : Nat) (h : d < (⟨#[48, 49, 50, 51, 52, 53, 54, 55, 56, 57, 97, 98, 99, 100, 101, 102]⟩ : ByteArray).size) : hexV ((⟨#[48, 49, 50, 51, 52, 53, 54, 55, 56, 57, 97, 98, 99, 100, 101, 102]⟩ : ByteArray)[d]'h).toNat = some d := by
  have h' : d < 16 := h
  have key : ∀ i : Fin 16, hexV ((⟨#[48, 49, 50, 51, 52, 53, 54, 55, 56, 57, 97, 98, 99, 100, 101, 102]⟩ : ByteArray)[i.val]'i.isLt).toNat = some i.val := by decide +kernel
  exact key ⟨d, h'⟩

/-- The four places hold the digits of N. -/
def Four (N j : Nat) (g : Nat → Nat) : Prop := ∀ t, j ≤ t → t < 4 → hexV (g t) = some (N / 16 ^ (3 - t) % 16)

theorem Four.all {N : Nat} {g : Nat → Nat} (h : Four N 0 g) (hN : N < 65536) : hacc g 4 = some N := by
  have h0 := h 0 (by omega) (by omega)
  have h1 := h 1 (by omega) (by omega)
  have h2 := h 2 (by omega) (by omega)
  have h3 := h 3 (by omega) (by omega)
  have e1 := hacc_step (f := g) (k := 0) rfl h0
  have e2 := hacc_step e1 h1
  have e3 := hacc_step e2 h2
  have e4 := hacc_step e3 h3
  rw [e4]
  simp only [Nat.reduceSub, Nat.reducePow, Nat.div_one]
  congr 1
  omega

theorem hexV_bound {c d : Nat} (h : hexV c = some d) : c < 256 := by
  unfold hexV at h
  split at h
  · omega
  · split at h
    · omega
    · split at h
      · omega
      · cases h

theorem Four.step {N j : Nat} {g : Nat → Nat} {c d : Nat} (h : Four N (j + 1) g) (hd : d = N / 16 ^ (3 - j) % 16) (hc : hexV c = some d) : Four N j (upd g j c) := by
  intro t h1 h2
  by_cases e : t = j
  · subst e; rw [upd_same, hc, hd]
  · rw [upd_ne _ _ e]; exact h t (by omega) h2

set_option maxHeartbeats 1000000 in
theorem reads_walk (n : Int) (u : Bool) (a : Option Addr) (len cap : Nat) (z : Nat → Nat) (w : World) (h0 : len ≤ maxLen) (i0 : IsIn w a len cap (fun i => .int .u8 (z i : Int))) :
    Calls Try.prog 6 #[.int .i64 n, .bool u, .slice a len cap] w fun e w' => LawPost w e w' := by
  go_enter Try.func6, Try.ntmps6
  go_wp2_with fail
  refine (zz17_any n u a len cap w h0).mono ?_
  rintro e w' ⟨r, rfl, rfl⟩
  unfold maxLen at h0
  cases r
  · go_wp2_with fail
    go_ret
    exact ⟨rfl, Below.refl _ _⟩
  by_cases hs : len ≤ 1048576
  case neg =>
    go_wp2_with fail
    go_ret
    exact ⟨rfl, Below.refl _ _⟩
  by_cases hn : 0 ≤ n ∧ n ≤ 65535
  case neg =>
    rcases (show n < 0 ∨ (0 ≤ n ∧ 65535 < n) from by omega) with h | ⟨h1, h2⟩
    all_goals
      clear hn
      go_wp2_with fail
      go_ret
      exact ⟨rfl, Below.refl _ _⟩
  obtain ⟨hn1, hn2⟩ := hn
  obtain ⟨N, rfl⟩ := Int.eq_ofNat_of_zero_le hn1
  go_wp2_with fail
  refine (cloneBytes_any a len cap z w' hs i0).mono ?_
  rintro e w1 ⟨ao, rfl, bel1, row1⟩
  clear i0
  have hmk := run_make_row' (P := Try.prog) 22 5 (.int .u8 0) 1 Try.underlying22 Try.info5 rfl .i64 .i64 (4 + len) (by omega) (by omega)
  rw [show ((4 + len : Nat) : Int) = 4 + (len : Int) from by omega] at hmk
  go_wp2
  go_loopw [8, 9] (fun v i wr => ∃ (j m : Nat) (g : Nat → Nat), j ≤ 4 ∧ i = .int .i64 ((j : Int) - 1) ∧ v = .int .i64 (m : Int) ∧ m = N / 16 ^ (4 - j) ∧ Below w1.heap.size w1 wr ∧ wr.rowIs w1.heap.size 5 (4 + len) (fun i => .int .u8 (g i : Int)) ∧ Four N j g) (fun _ i _ => (intOf i + 1).toNat)
  case atStart => exact ⟨4, N, fun _ => 0, by omega, rfl, rfl, by simp, (Below.refl _ _).alloc (Nat.le_refl _) _, World.rowIs_made w1 (.int .u8 0) (4 + len) 5, fun t h1 h2 => by omega⟩
  case round =>
    obtain ⟨j, m, g, hj, rfl, rfl, hm, belr, row, hf⟩ := hrel
    clear hmk
    by_cases hj0 : 1 ≤ j
    · obtain ⟨j, rfl⟩ : ∃ i, j = i + 1 := ⟨j - 1, by omega⟩
      have HF : Hid (Four N (j + 1) g) := hf
      have HV : Hid (m / 16 = N / 16 ^ (4 - j)) := by
        show _ = _
        rw [hm, Nat.div_div_eq_div_mul, ← Nat.pow_succ, show (4 - (j + 1)).succ = 4 - j from by omega]
      obtain ⟨d, hdm⟩ : ∃ d, d = m % 16 := ⟨_, rfl⟩
      have HD : Hid (d = N / 16 ^ (3 - j) % 16) := by show _ = _; rw [hdm, hm, show 4 - (j + 1) = 3 - j from by omega]
      have hmb : m ≤ N := by rw [hm]; exact Nat.div_le_self _ _
      have HQ : Hid (((m / 16 : Nat) : Int) = (m : Int) / 16) := by show _ = _; omega
      have hd16 : d < 16 := by omega
      have hmod : (m : Int) % 16 = (d : Int) := by omega
      have cj := row.cell (show j < 4 + len from by omega)
      have fj := row.frozen j
      clear hm hf hdm
      cases u
      · have hd : d < (⟨#[48, 49, 50, 51, 52, 53, 54, 55, 56, 57, 97, 98, 99, 100, 101, 102]⟩ : ByteArray).size := hd16
        go_wp2
        go_roundw
        case rel => exact ⟨j, m / 16, upd g j ((⟨#[48, 49, 50, 51, 52, 53, 54, 55, 56, 57, 97, 98, 99, 100, 101, 102]⟩ : ByteArray)[d]'hd).toNat, by omega, rfl, by rw [HQ.out], HV.out, belr.setCell (Nat.le_refl _) _, row_upd row _ _, HF.out.step HD.out (lo_get _ _)⟩
        case measure => simp [intOf]
      · have hd : d < (⟨#[48, 49, 50, 51, 52, 53, 54, 55, 56, 57, 65, 66, 67, 68, 69, 70]⟩ : ByteArray).size := hd16
        go_wp2
        go_roundw
        case rel => exact ⟨j, m / 16, upd g j ((⟨#[48, 49, 50, 51, 52, 53, 54, 55, 56, 57, 65, 66, 67, 68, 69, 70]⟩ : ByteArray)[d]'hd).toNat, by omega, rfl, by rw [HQ.out], HV.out, belr.setCell (Nat.le_refl _) _, row_upd row _ _, HF.out.step HD.out (up_get _ _)⟩
        case measure => simp [intOf]
    obtain rfl : j = 0 := by omega
    have HF : Hid (Four N 0 g) := hf
    clear hj0 hf hm
    by_cases hl : 0 < len
    · obtain ⟨rfl, r1⟩ := row1 hl
      have lt1 := r1.lt
      clear row1
      go_wp2
      go_loopw [11] (fun i wl => ∃ (k : Nat) (g : Nat → Nat), k ≤ len ∧ i = .int .i64 (k : Int) ∧ Below w1.heap.size w1 wl ∧ wl.rowIs w1.heap.size 5 (4 + len) (fun i => .int .u8 (g i : Int)) ∧ Four N 0 g) (fun i _ => len - (intOf i).toNat)
      case atStart => exact ⟨0, g, Nat.zero_le _, rfl, belr, row, HF.out⟩
      case round =>
        clear belr row HF
        obtain ⟨k, g, hk, rfl, bell, rowl, hf⟩ := hrel
        have HF : Hid (Four N 0 g) := hf
        clear hf
        by_cases hlt : k < len
        · have ck : wr.cell? ⟨w'.heap.size, k, none⟩ = some (.int .u8 (z k : Int)) := by rw [bell.cell (by exact lt1), r1.cell hlt]
          have cg := rowl.cell (show 4 + k < 4 + len from by omega)
          have fg := rowl.frozen (4 + k)
          go_wp2
          go_roundw
          case rel => exact ⟨k + 1, upd g (4 + k) (z k), by omega, by go_num, bell.setCell (Nat.le_refl _) _, row_upd rowl _ _, fun t h1 h2 => by rw [upd_ne _ _ (by omega)]; exact HF.out t h1 h2⟩
          case measure => simp [intOf]; omega
        · have HX := shim4 (some ⟨w1.heap.size, 0, none⟩) (4 + len) (4 + len) g wr (hex4_any w1.heap.size 0 (4 + len) (4 + len) g (by omega) (Nat.le_refl _) (by omega) (fun i hi => hexV_bound (HF.out i (by omega) hi)) wr (fun i hi => by rw [Nat.zero_add]; exact rowl.cell (by omega)))
          have HH : Hid (Calls Try.prog 15 #[.slice (some ⟨w1.heap.size, 0, none⟩) (4 + len) (4 + len)] wr fun e w'' => Hex4Post g wr e w'') := HX
          clear HX
          have HA : Hid (hacc g 4 = some N) := HF.out.all (by omega)
          go_wp2_with fail
          refine HH.out.mono ?_
          clear HH
          rintro e w2 ⟨rfl, ⟨x, hx, rfl⟩ | ⟨hx, rfl⟩⟩
          · obtain rfl : x = N := Option.some.inj (hx.symm.trans HA.out)
            clear hx
            go_wp2
            go_ret
            exact ⟨rfl, bel1.trans (bell.mono bel1.size)⟩
          · exact absurd (hx.symm.trans HA.out) (by simp)
    · obtain rfl : len = 0 := by omega
      have HX := shim4 (some ⟨w1.heap.size, 0, none⟩) 4 4 g wr (hex4_any w1.heap.size 0 4 4 g (by omega) (Nat.le_refl _) (by omega) (fun i hi => hexV_bound (HF.out i (by omega) hi)) wr (fun i hi => by rw [Nat.zero_add]; exact row.cell (by omega)))
      have HH : Hid (Calls Try.prog 15 #[.slice (some ⟨w1.heap.size, 0, none⟩) 4 4] wr fun e w'' => Hex4Post g wr e w'') := HX
      clear HX row1
      have HA : Hid (hacc g 4 = some N) := HF.out.all (by omega)
      go_wp2
      refine wp_loop_rounds 1 ?_
      rw [rounds_succ]
      go_wp2_with fail
      refine HH.out.mono ?_
      clear HH
      rintro e w2 ⟨rfl, ⟨x, hx, rfl⟩ | ⟨hx, rfl⟩⟩
      · obtain rfl : x = N := Option.some.inj (hx.symm.trans HA.out)
        clear hx
        go_wp2
        go_ret
        exact ⟨rfl, bel1.trans (belr.mono bel1.size)⟩
      · exact absurd (hx.symm.trans HA.out) (by simp)

end Go.Proofs.Qxb6000034a
