import Derived.Below
namespace Go.Proofs.Qxb6614053a

/-! ### The heap, as plain functions: the ids a 0 .. a (m-1), ordered by v -/
def Heap (v : Nat → Int) (a : Nat → Nat) (m : Nat) : Prop := ∀ i, 0 < i → i < m → v (a ((i - 1) / 2)) ≤ v (a i)
def swp (a : Nat → Nat) (i j : Nat) : Nat → Nat := fun k => if k = i then a j else if k = j then a i else a k
/-- a heap but for the edge above j -/
def UpTo (v : Nat → Int) (a : Nat → Nat) (m j : Nat) : Prop :=
  (∀ i, 0 < i → i < m → i ≠ j → v (a ((i - 1) / 2)) ≤ v (a i)) ∧ (∀ c, 0 < c → c < m → (c - 1) / 2 = j → 0 < j → v (a ((j - 1) / 2)) ≤ v (a c))
/-- a heap but for the edges below i -/
def DownTo (v : Nat → Int) (a : Nat → Nat) (m i : Nat) : Prop :=
  (∀ c, 0 < c → c < m → (c - 1) / 2 ≠ i → v (a ((c - 1) / 2)) ≤ v (a c)) ∧ (∀ c, 0 < c → c < m → (c - 1) / 2 = i → 0 < i → v (a ((i - 1) / 2)) ≤ v (a c))
/-- b holds the same ids as a, in another order: each once -/
def Same (a b : Nat → Nat) (m : Nat) : Prop := (∀ i, i < m → ∃ k, k < m ∧ b i = a k) ∧ ((∀ i j, i < m → j < m → a i = a j → i = j) → ∀ i j, i < m → j < m → b i = b j → i = j)

theorem Same.refl (a : Nat → Nat) (m : Nat) : Same a a m := ⟨fun i h => ⟨i, h, rfl⟩, fun h => h⟩
theorem Same.trans {a b c : Nat → Nat} {m : Nat} (h : Same a b m) (k : Same b c m) : Same a c m :=
  ⟨fun i hi => by obtain ⟨x, hx, e⟩ := k.1 i hi; obtain ⟨y, hy, e'⟩ := h.1 x hx; exact ⟨y, hy, e.trans e'⟩, fun hh => k.2 (h.2 hh)⟩
theorem swp_same (a : Nat → Nat) {m i j : Nat} (hi : i < m) (hj : j < m) : Same a (swp a i j) m := by
  refine ⟨fun k hk => ?_, fun h x y hx hy e => ?_⟩
  · unfold swp
    split
    · exact ⟨j, hj, rfl⟩
    · split
      · exact ⟨i, hi, rfl⟩
      · exact ⟨k, hk, rfl⟩
  · unfold swp at e
    split at e <;> split at e <;> (try split at e) <;> (try split at e)
    all_goals (first | omega | (have := h _ _ (by assumption) (by assumption) e; omega))

theorem root_least {v : Nat → Int} {a : Nat → Nat} {m : Nat} (h : Heap v a m) : ∀ n i, i ≤ n → i < m → v (a 0) ≤ v (a i)
  | 0, i, hn, _ => by
    have : i = 0 := by omega
    subst this; exact Int.le_refl _
  | n + 1, i, hn, him => by
    by_cases e : i = 0
    · subst e; exact Int.le_refl _
    · exact Int.le_trans (root_least h n ((i - 1) / 2) (by omega) (by omega)) (h i (by omega) him)

theorem up_stop {v : Nat → Int} {a : Nat → Nat} {m j : Nat} (h : UpTo v a m j) (hs : j = 0 ∨ v (a ((j - 1) / 2)) ≤ v (a j)) : Heap v a m := by
  intro i h0 hm
  by_cases e : i = j
  · subst e
    rcases hs with hs | hs
    · omega
    · exact hs
  · exact h.1 i h0 hm e

theorem swp_i (a : Nat → Nat) (i j : Nat) : swp a i j i = a j := by simp [swp]
theorem swp_j (a : Nat → Nat) (i j : Nat) : swp a i j j = a i := by unfold swp; split <;> simp_all
theorem swp_o (a : Nat → Nat) {i j k : Nat} (h1 : k ≠ i) (h2 : k ≠ j) : swp a i j k = a k := by simp [swp, h1, h2]

theorem up_step {v : Nat → Int} {a : Nat → Nat} {m j : Nat} (h : UpTo v a m j) (hj : 0 < j) (hm : j < m) (hl : v (a j) < v (a ((j - 1) / 2))) :
    UpTo v (swp a ((j - 1) / 2) j) m ((j - 1) / 2) := by
  obtain ⟨h1, h2⟩ := h
  have hp : (j - 1) / 2 ≠ j := by omega
  refine ⟨fun i h0 him hne => ?_, fun c h0 hc hpc hp0 => ?_⟩
  · by_cases e : i = j
    · subst e
      rw [swp_i, swp_j]; omega
    · rw [swp_o a hne e]
      by_cases e2 : (i - 1) / 2 = (j - 1) / 2
      · rw [e2, swp_i]
        have := h1 i h0 him e
        rw [e2] at this
        omega
      · by_cases e3 : (i - 1) / 2 = j
        · rw [e3, swp_j]
          exact h2 i h0 him e3 hj
        · rw [swp_o a e2 e3]
          exact h1 i h0 him e
  · have hpp : ((j - 1) / 2 - 1) / 2 ≠ (j - 1) / 2 := by omega
    have hpj : ((j - 1) / 2 - 1) / 2 ≠ j := by omega
    rw [swp_o a hpp hpj]
    have hpar := h1 ((j - 1) / 2) hp0 (by omega) hp
    by_cases e : c = j
    · subst e; rw [swp_j]; exact hpar
    · have hcp : c ≠ (j - 1) / 2 := by omega
      rw [swp_o a hcp e]
      have := h1 c h0 hc e
      rw [hpc] at this
      omega

/-- a new id at the end -/
theorem up_push {v : Nat → Int} {a b : Nat → Nat} {m : Nat} (h : Heap v a m) (hb : ∀ i, i < m → b i = a i) : UpTo v b (m + 1) m := by
  refine ⟨fun i h0 hi hne => ?_, fun c h0 hc hp h0' => ?_⟩
  · rw [hb i (by omega), hb _ (by omega)]
    exact h i h0 (by omega)
  · omega

theorem down_stop {v : Nat → Int} {a : Nat → Nat} {m i : Nat} (h : DownTo v a m i) (hs : ∀ c, 0 < c → c < m → (c - 1) / 2 = i → v (a i) ≤ v (a c)) : Heap v a m := by
  intro c h0 hm
  by_cases e : (c - 1) / 2 = i
  · have := hs c h0 hm e
    rw [e]; exact this
  · exact h.1 c h0 hm e

theorem down_step {v : Nat → Int} {a : Nat → Nat} {m i j : Nat} (h : DownTo v a m i) (hj0 : 0 < j) (hjm : j < m) (hji : (j - 1) / 2 = i)
    (hmin : ∀ c, 0 < c → c < m → (c - 1) / 2 = i → v (a j) ≤ v (a c)) (hl : v (a j) < v (a i)) : DownTo v (swp a i j) m j := by
  obtain ⟨h1, h2⟩ := h
  have hij : i ≠ j := by omega
  refine ⟨fun c h0 hc hne => ?_, fun c h0 hc hp _ => ?_⟩
  · by_cases e : (c - 1) / 2 = i
    · rw [e, swp_i]
      by_cases e2 : c = j
      · subst e2; rw [swp_j]; omega
      · have hci : c ≠ i := by omega
        rw [swp_o a hci e2]
        exact hmin c h0 hc e
    · rw [swp_o a e hne]
      by_cases e2 : c = i
      · subst e2
        rw [swp_i]
        exact h2 j hj0 hjm hji h0
      · by_cases e3 : c = j
        · subst e3; exact absurd hji e
        · rw [swp_o a e2 e3]
          exact h1 c h0 hc e
  · rw [hji, swp_i]
    have hci : c ≠ i := by omega
    have hcj : c ≠ j := by omega
    rw [swp_o a hci hcj]
    have := h1 c h0 hc (by omega)
    rw [hp] at this
    exact this

/-- the last id goes to the root, the root away -/
theorem down_pop {v : Nat → Int} {a : Nat → Nat} {m : Nat} (h : Heap v a (m + 1)) : DownTo v (swp a 0 m) m 0 := by
  refine ⟨fun c h0 hc hne => ?_, fun c h0 hc hp h0' => by omega⟩
  rw [swp_o a hne (by omega), swp_o a (k := c) (by omega) (by omega)]
  exact h c h0 (by omega)
end Go.Proofs.Qxb6614053a
