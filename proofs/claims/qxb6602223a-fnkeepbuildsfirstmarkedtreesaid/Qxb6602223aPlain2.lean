/-
  THE PLAIN LAWS of the model tree that the law FnKeepBuildsFirstMarkedTree builds by climbing from each leaf: no Go in sight.
-/
import Derived.Test.Qxb6602223aPlain
namespace Go.Proofs.Qxb6602223a

/-- u is a proper ancestor of x. -/
def Anc (u x : Nat) : Prop := ∃ i, 1 ≤ i ∧ x / 2 ^ i = u

theorem Anc.half (x : Nat) : Anc (x / 2) x := ⟨1, by omega, by simp⟩
theorem Anc.up {c x : Nat} (h : Anc c x) : Anc (c / 2) x := by
  obtain ⟨i, hi, rfl⟩ := h
  exact ⟨i + 1, by omega, by rw [Nat.pow_succ, Nat.div_div_eq_div_mul]⟩
theorem Anc.le {u x : Nat} (h : Anc u x) : u ≤ x / 2 := by
  obtain ⟨i, hi, rfl⟩ := h
  obtain ⟨k, rfl⟩ : ∃ k, i = k + 1 := ⟨i - 1, by omega⟩
  rw [Nat.pow_succ, Nat.mul_comm, ← Nat.div_div_eq_div_mul]
  exact Nat.div_le_self _ _

theorem div_pow_anti (x : Nat) {i j : Nat} (h : i ≤ j) : x / 2 ^ j ≤ x / 2 ^ i := Nat.div_le_div_left (Nat.pow_le_pow_right (by omega) h) (Nat.pow_pos (by omega))

/-- Between an ancestor c and its half lies no other ancestor. -/
theorem Anc.gap {u c x : Nat} (hu : Anc u x) (hc : Anc c x) (h : c / 2 < u) : c ≤ u := by
  obtain ⟨i, hi, rfl⟩ := hu
  obtain ⟨j, hj, rfl⟩ := hc
  rcases Nat.lt_or_ge j i with hlt | hge
  · have h1 := div_pow_anti x (show j + 1 ≤ i from hlt)
    rw [Nat.pow_succ, ← Nat.div_div_eq_div_mul] at h1
    omega
  · exact div_pow_anti x hge

/-- x is the least of n and the leaves below u among the first k. -/
structure Best (m : Nat) (n : Int) (lf : Nat → Int) (k u : Nat) (x : Int) : Prop where
  le : x ≤ n
  lower : ∀ j, j < k → Anc u (m + j) → x ≤ lf j
  hit : x = n ∨ ∃ j, j < k ∧ Anc u (m + j) ∧ x = lf j

theorem Best.start (m : Nat) (n : Int) (lf : Nat → Int) (u : Nat) : Best m n lf 0 u n := ⟨Int.le_refl _, fun j hj => by omega, .inl rfl⟩

theorem Best.skip {m : Nat} {n : Int} {lf : Nat → Int} {k u : Nat} {x : Int} (h : Best m n lf k u x) (hn : ¬ Anc u (m + k)) : Best m n lf (k + 1) u x := by
  refine ⟨h.le, fun j hj ha => ?_, ?_⟩
  · by_cases e : j = k
    · subst e; exact absurd ha hn
    · exact h.lower j (by omega) ha
  · rcases h.hit with h1 | ⟨j, hj, h2, h3⟩
    · exact .inl h1
    · exact .inr ⟨j, by omega, h2, h3⟩

theorem Best.take {m : Nat} {n : Int} {lf : Nat → Int} {k u : Nat} {x : Int} (h : Best m n lf k u x) (ha : Anc u (m + k)) : Best m n lf (k + 1) u (if lf k < x then lf k else x) := by
  have hl := h.le
  refine ⟨by split <;> omega, fun j hj hj' => ?_, ?_⟩
  · by_cases e : j = k
    · subst e; split <;> omega
    · have := h.lower j (by omega) hj'; split <;> omega
  · split
    · exact .inr ⟨k, by omega, ha, rfl⟩
    · rcases h.hit with h1 | ⟨j, hj, h2, h3⟩
      · exact .inl h1
      · exact .inr ⟨j, by omega, h2, h3⟩

/-- The model behind k leaves. -/
structure Mod (m : Nat) (n : Int) (lf : Nat → Int) (k : Nat) (g : Nat → Int) : Prop where
  leaf : ∀ j, j < k → g (m + j) = lf j
  best : ∀ u, 1 ≤ u → u < m → Best m n lf k u (g u)

/-- The model while leaf k climbs: it stands at c, and what lies above c on its way has been seen to. -/
structure Climb (m : Nat) (n : Int) (lf : Nat → Int) (k c : Nat) (g : Nat → Int) : Prop where
  at_ : Anc c (m + k)
  leaf : ∀ j, j < k + 1 → g (m + j) = lf j
  past : ∀ u, 1 ≤ u → u < m → Anc u (m + k) → c < u → Best m n lf (k + 1) u (g u)
  rest : ∀ u, 1 ≤ u → u < m → (¬ Anc u (m + k) ∨ u ≤ c) → Best m n lf k u (g u)

theorem Climb.start {m : Nat} {n : Int} {lf : Nat → Int} {k : Nat} {g : Nat → Int} (h : Mod m n lf k g) (_hk : k < m) : Climb m n lf k ((m + k) / 2) (upd g (m + k) (lf k)) := by
  refine ⟨Anc.half _, fun j hj => ?_, fun u h1 h2 ha hc => ?_, fun u h1 h2 _ => ?_⟩
  · by_cases e : j = k
    · subst e; rw [upd_same]
    · rw [upd_ne _ _ (by omega)]; exact h.leaf j (by omega)
  · have := ha.le; omega
  · rw [upd_ne _ _ (by omega)]; exact h.best u h1 h2

theorem Climb.bound {m : Nat} {n : Int} {lf : Nat → Int} {k c : Nat} {g : Nat → Int} (h : Climb m n lf k c g) (hk : k < m) : c < m := by
  have := h.at_.le; omega

theorem Climb.step {m : Nat} {n : Int} {lf : Nat → Int} {k c : Nat} {g : Nat → Int} (h : Climb m n lf k c g) (hk : k < m) (hc : 1 ≤ c) :
    Climb m n lf k (c / 2) (upd g c (if lf k < g c then lf k else g c)) := by
  have hb := h.bound hk
  refine ⟨h.at_.up, fun j hj => ?_, fun u h1 h2 ha hcu => ?_, fun u h1 h2 hor => ?_⟩
  · rw [upd_ne _ _ (by omega)]; exact h.leaf j hj
  · by_cases e : u = c
    · subst e
      rw [upd_same]
      exact (h.rest u h1 h2 (.inr (Nat.le_refl _))).take ha
    · have := ha.gap h.at_ hcu
      rw [upd_ne _ _ e]
      exact h.past u h1 h2 ha (by omega)
  · have hne : u ≠ c := by
      rcases hor with h3 | h3
      · intro e; subst e; exact h3 h.at_
      · omega
    rw [upd_ne _ _ hne]
    refine h.rest u h1 h2 ?_
    rcases hor with h3 | h3
    · exact .inl h3
    · exact .inr (by omega)

theorem Climb.stay {m : Nat} {n : Int} {lf : Nat → Int} {k c : Nat} {g : Nat → Int} (h : Climb m n lf k c g) (hk : k < m) (hc : 1 ≤ c) (hn : ¬ lf k < g c) : Climb m n lf k (c / 2) g := by
  have h1 := h.step hk hc
  rw [if_neg hn] at h1
  have e : upd g c (g c) = g := by funext j; unfold upd; split <;> simp_all
  rw [e] at h1
  exact h1

theorem Climb.done {m : Nat} {n : Int} {lf : Nat → Int} {k : Nat} {g : Nat → Int} (h : Climb m n lf k 0 g) : Mod m n lf (k + 1) g := by
  refine ⟨h.leaf, fun u h1 h2 => ?_⟩
  by_cases ha : Anc u (m + k)
  · exact h.past u h1 h2 ha (by omega)
  · exact (h.rest u h1 h2 (.inl ha)).skip ha

/-- A node is at most what lies below it. -/
theorem Tree.le_below {m : Nat} {lf f : Nat → Int} (h : Tree m lf f) (x : Nat) (hx : x < 2 * m) : ∀ i, 1 ≤ x / 2 ^ i → f (x / 2 ^ i) ≤ f x := by
  intro i
  induction i with
  | zero => intro _; simp
  | succ i ih =>
    intro h1
    rw [Nat.pow_succ, ← Nat.div_div_eq_div_mul] at h1 ⊢
    have hle : x / 2 ^ i ≤ x := Nat.div_le_self _ _
    have h2 := ih (by omega)
    have h3 := h.inner (x / 2 ^ i / 2) h1 (by omega)
    rcases (show x / 2 ^ i = 2 * (x / 2 ^ i / 2) ∨ x / 2 ^ i = 2 * (x / 2 ^ i / 2) + 1 from by omega) with e | e
    · rw [← e] at h3; omega
    · rw [← e] at h3; omega

/-- An inner node names a leaf below it. -/
theorem Tree.names_below {m : Nat} {lf f : Nat → Int} (h : Tree m lf f) : ∀ d u, m - u ≤ d → 1 ≤ u → u < m → ∃ j, j < m ∧ Anc u (m + j) ∧ f u = lf j := by
  intro d
  induction d with
  | zero => intro u h1 h2 h3; omega
  | succ d ih =>
    intro u h1 h2 h3
    have child : ∀ c, c / 2 = u → c < 2 * m → ∃ j, j < m ∧ Anc u (m + j) ∧ f c = lf j := by
      intro c hc hcm
      by_cases hlt : c < m
      · obtain ⟨j, hj, ha, he⟩ := ih c (by omega) (by omega) hlt
        exact ⟨j, hj, by have := ha.up; rwa [hc] at this, he⟩
      · refine ⟨c - m, by omega, ?_, ?_⟩
        · have e : m + (c - m) = c := by omega
          rw [e, ← hc]; exact Anc.half _
        · rw [← h.leaf (c - m) (by omega)]
          congr 1
          omega
    rw [h.inner u h2 h3]
    rcases Int.le_total (f (2 * u)) (f (2 * u + 1)) with hc | hc
    · rw [Int.min_eq_left hc]; exact child _ (by omega) (by omega)
    · rw [Int.min_eq_right hc]; exact child _ (by omega) (by omega)

/-- The tree is the model. -/
theorem tree_is_model {m : Nat} {n : Int} {lf f g : Nat → Int} (ht : Tree m lf f) (hg : Mod m n lf m g) (hlf : ∀ j, j < m → lf j ≤ n) (u : Nat) (h1 : 1 ≤ u) (h2 : u < 2 * m) : f u = g u := by
  by_cases hu : u < m
  · obtain ⟨j, hj, ha, he⟩ := ht.names_below m u (by omega) h1 hu
    have hb := hg.best u h1 hu
    have h3 := hb.lower j hj ha
    rcases hb.hit with h4 | ⟨i, hi, hai, h4⟩
    · have := hlf j hj; omega
    · obtain ⟨q, hq, hq'⟩ := hai
      have h5 := ht.le_below (m + i) (by omega) q (by omega)
      rw [hq', ht.leaf i hi] at h5
      omega
  · have e : u = m + (u - m) := by omega
    rw [e, ht.leaf _ (by omega), hg.leaf _ (by omega)]

end Go.Proofs.Qxb6602223a
