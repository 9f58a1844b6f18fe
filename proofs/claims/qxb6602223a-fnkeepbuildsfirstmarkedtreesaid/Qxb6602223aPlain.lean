/-
  THE PLAIN LAWS of the tree that keep builds: no Go in sight.
-/
namespace Go.Proofs.Qxb6602223a

/-- f with v at place i. -/
def upd (f : Nat → Int) (i : Nat) (v : Int) : Nat → Int := fun j => if j = i then v else f j
theorem upd_same (f : Nat → Int) (i : Nat) (v : Int) : upd f i v i = v := by simp [upd]
theorem upd_ne (f : Nat → Int) {i j : Nat} (v : Int) (h : j ≠ i) : upd f i v j = f j := by simp [upd, h]

/-- The leaf for place number k: the place where it is marked, 'none' where not. -/
def leaf (n : Int) (z : Nat → Int) (mk : Nat → Bool) (k : Nat) : Int := if mk (z k).toNat = true then z k else n

/-- f is the tree over the m leaves: f 0 = 0; the leaves at m + k; each inner node the lesser of its two children. -/
structure Tree (m : Nat) (lf : Nat → Int) (f : Nat → Int) : Prop where
  zero : 0 < m → f 0 = 0
  leaf : ∀ k, k < m → f (m + k) = lf k
  inner : ∀ u, 1 ≤ u → u < m → f u = min (f (2 * u)) (f (2 * u + 1))

/-- Every node names some leaf's value. -/
theorem Tree.names {m : Nat} {lf f : Nat → Int} (h : Tree m lf f) : ∀ d u, 2 * m - u ≤ d → 1 ≤ u → u < 2 * m → ∃ j, j < m ∧ f u = lf j := by
  intro d
  induction d with
  | zero => intro u h1 h2 h3; omega
  | succ d ih =>
    intro u h1 h2 h3
    by_cases hu : u < m
    · rw [h.inner u h2 hu]
      rcases Int.le_total (f (2 * u)) (f (2 * u + 1)) with hc | hc
      · rw [Int.min_eq_left hc]; exact ih _ (by omega) (by omega) (by omega)
      · rw [Int.min_eq_right hc]; exact ih _ (by omega) (by omega) (by omega)
    · refine ⟨u - m, by omega, ?_⟩
      rw [← h.leaf (u - m) (by omega)]
      congr 1
      omega

/-- The root is at most every node. -/
theorem Tree.root_le {m : Nat} {lf f : Nat → Int} (h : Tree m lf f) : ∀ d u, u ≤ d → 1 ≤ u → u < 2 * m → f 1 ≤ f u := by
  intro d
  induction d with
  | zero => intro u h1 h2; omega
  | succ d ih =>
    intro u h1 h2 h3
    by_cases h0 : u = 1
    · subst h0; exact Int.le_refl _
    · have h4 := ih (u / 2) (by omega) (by omega) (by omega)
      have h5 := h.inner (u / 2) (by omega) (by omega)
      rcases (show u = 2 * (u / 2) ∨ u = 2 * (u / 2) + 1 from by omega) with e | e
      · rw [← e] at h5; omega
      · rw [← e] at h5; omega

theorem Tree.root_le_leaf {m : Nat} {lf f : Nat → Int} (h : Tree m lf f) (j : Nat) (hj : j < m) : f 1 ≤ lf j := by
  rw [← h.leaf j hj]; exact h.root_le _ _ (Nat.le_refl _) (by omega) (by omega)

/-- One round of keep's second loop. -/
theorem inner_step {k u : Nat} {g : Nat → Int} (hu0 : 1 ≤ u) (hgi : ∀ j, u < j → j < k → g j = min (g (2 * j)) (g (2 * j + 1))) (j : Nat) (h1 : u - 1 < j) (h2 : j < k) :
    upd g u (if g (2 * u + 1) < g (2 * u) then g (2 * u + 1) else g (2 * u)) j =
      min (upd g u (if g (2 * u + 1) < g (2 * u) then g (2 * u + 1) else g (2 * u)) (2 * j)) (upd g u (if g (2 * u + 1) < g (2 * u) then g (2 * u + 1) else g (2 * u)) (2 * j + 1)) := by
  rw [upd_ne g _ (show 2 * j ≠ u from by omega), upd_ne g _ (show 2 * j + 1 ≠ u from by omega)]
  by_cases e : j = u
  · subst e
    rw [upd_same]
    split <;> omega
  · rw [upd_ne g _ e]
    exact hgi j (by omega) h2

/-- What the law's first loop has gathered of the first k places: the least marked one, or n; and that each marked one is listed. -/
structure Seen (n : Int) (z : Nat → Int) (mk : Nat → Bool) (k : Nat) (least : Int) (ls : Nat → Bool) : Prop where
  le : least ≤ n
  lower : ∀ j, j < k → mk (z j).toNat = true → least ≤ z j
  hit : least = n ∨ ∃ j, j < k ∧ mk (z j).toNat = true ∧ least = z j
  listed : ∀ j, j < k → mk (z j).toNat = true → ls (z j).toNat = true

def updB (f : Nat → Bool) (i : Nat) (v : Bool) : Nat → Bool := fun j => if j = i then v else f j

theorem Seen.start (n : Int) (z : Nat → Int) (mk : Nat → Bool) : Seen n z mk 0 n (fun _ => false) :=
  ⟨Int.le_refl _, fun j hj => by omega, .inl rfl, fun j hj => by omega⟩

theorem Seen.skip {n : Int} {z : Nat → Int} {mk : Nat → Bool} {k q : Nat} {least : Int} {ls : Nat → Bool} (h : Seen n z mk k least ls) (hq : z k = q) (hm : mk q = false) : Seen n z mk (k + 1) least ls := by
  have hk : mk (z k).toNat = false := by rw [hq]; simpa using hm
  refine ⟨h.le, fun j hj hmj => ?_, ?_, fun j hj hmj => ?_⟩
  · by_cases e : j = k
    · subst e; rw [hk] at hmj; cases hmj
    · exact h.lower j (by omega) hmj
  · rcases h.hit with h1 | ⟨j, hj, h2, h3⟩
    · exact .inl h1
    · exact .inr ⟨j, by omega, h2, h3⟩
  · by_cases e : j = k
    · subst e; rw [hk] at hmj; cases hmj
    · exact h.listed j (by omega) hmj

theorem Seen.take {n : Int} {z : Nat → Int} {mk : Nat → Bool} {k q : Nat} {least : Int} {ls : Nat → Bool} (h : Seen n z mk k least ls) (hq : z k = q) (hm : mk q = true) :
    Seen n z mk (k + 1) (if (q : Int) < least then (q : Int) else least) (updB ls q true) := by
  have hk : mk (z k).toNat = true := by rw [hq]; simpa using hm
  have hl := h.le
  refine ⟨by split <;> omega, fun j hj hmj => ?_, ?_, fun j hj hmj => ?_⟩
  · by_cases e : j = k
    · subst e; rw [hq]; split <;> omega
    · have := h.lower j (by omega) hmj; split <;> omega
  · split
    · exact .inr ⟨k, by omega, hk, hq.symm⟩
    · rcases h.hit with h1 | ⟨j, hj, h2, h3⟩
      · exact .inl h1
      · exact .inr ⟨j, by omega, h2, h3⟩
  · by_cases e : j = k
    · subst e; rw [hq]; simp [updB]
    · have := h.listed j (by omega) hmj
      unfold updB
      split
      · rfl
      · exact this

/-- The root is the least marked place. -/
theorem root_is_least {m : Nat} {n : Int} {z : Nat → Int} {mk : Nat → Bool} {f : Nat → Int} {least : Int} {ls : Nat → Bool} (hm : 0 < m) (hin : ∀ k, k < m → 0 ≤ z k ∧ z k < n)
    (ht : Tree m (leaf n z mk) f) (hs : Seen n z mk m least ls) : f 1 = least := by
  obtain ⟨j, hj, hfj⟩ := ht.names (2 * m) 1 (by omega) (by omega) (by omega)
  have hle := hs.le
  have h1 : least ≤ f 1 := by
    rw [hfj]; unfold leaf
    split
    · exact hs.lower j hj (by assumption)
    · exact hle
  rcases hs.hit with h2 | ⟨i, hi, hmi, h2⟩
  · have h3 := ht.root_le_leaf j hj
    have h4 : leaf n z mk j ≤ n := by unfold leaf; split <;> have := hin j hj <;> omega
    omega
  · have h3 := ht.root_le_leaf i hi
    have h4 : leaf n z mk i = z i := by unfold leaf; rw [if_pos hmi]
    omega

/-- Every node is n, or a listed place. -/
theorem node_listed {m : Nat} {n : Int} {z : Nat → Int} {mk : Nat → Bool} {f : Nat → Int} {least : Int} {ls : Nat → Bool} (hin : ∀ k, k < m → 0 ≤ z k ∧ z k < n)
    (ht : Tree m (leaf n z mk) f) (hs : Seen n z mk m least ls) (u : Nat) (h1 : 1 ≤ u) (h2 : u < 2 * m) : f u = n ∨ ∃ p : Nat, f u = p ∧ (p : Int) < n ∧ ls p = true := by
  obtain ⟨j, hj, hfj⟩ := ht.names (2 * m) u (by omega) h1 h2
  rw [hfj]
  unfold leaf
  split
  · right
    have hb := hin j hj
    exact ⟨(z j).toNat, by omega, by omega, hs.listed j hj (by assumption)⟩
  · exact .inl rfl

end Go.Proofs.Qxb6602223a
