import Derived.Test.Qxb6614053aZPop
import Derived.Test.Qxb6614053aZPush
namespace Go.Proofs.Qxb6614053a
open Go.ChangeShapes Go.WideShapes Go.ChangeAt Go.RowKit

theorem bytes_any (a : Option Addr) (n cap : Nat) (w : World) (hm : n ≤ maxLen) : Calls Try.prog 5 #[.slice a n cap] w fun e w' => e = .returned (.bool (decide (n ≤ 1048576))) ∧ w' = w := by
  unfold maxLen at hm
  by_cases h : n ≤ 1048576
  · have h1 : ((n : Int) ≤ 1048576) := by omega
    rw [show decide (n ≤ 1048576) = true by simpa using h]
    clear h hm
    go_enter Try.func5, Try.ntmps5
    go_wp2
    go_ret
    exact ⟨rfl, rfl⟩
  · have h1 : (1048576 : Int) < (n : Int) := by omega
    rw [show decide (n ≤ 1048576) = false by simpa using h]
    clear h hm
    go_enter Try.func5, Try.ntmps5
    go_wp2
    go_ret
    exact ⟨rfl, rfl⟩
theorem new_any (w : World) : Calls Try.prog 6 #[] w fun e w' => e = .returned (.pointer (some ⟨w.heap.size, 0, none⟩)) ∧ w' = w.alloc (.cells #[.slice none 0 0, .int .i64 0] 46) := by
  go_enter Try.func6, Try.ntmps6
  go_wp2
  go_ret
  exact ⟨rfl, rfl⟩
theorem new_q (w : World) (Z : Nat → Int) (a : Nat → Nat) : Q w.heap.size w (w.alloc (.cells #[.slice none 0 0, .int .i64 0] 46)) w.heap.size 0 Z a :=
  .inl ⟨rfl, fun _ => 0, fun _ => 0, ⟨(Below.refl _ _).alloc (Nat.le_refl _) _, ⟨Nat.le_refl _, Nat.le_refl _⟩, ⟨#[.slice none 0 0, .int .i64 0], 46, heap_alloc_new w _, rfl, rfl⟩, ⟨rfl, .inl ⟨rfl, rfl⟩⟩, by simp [Value.ownBlock], fun j hj => by omega, fun j hj => by omega, fun i j hi => by omega, ⟨rfl, by omega⟩, fun i hi => by omega⟩⟩
theorem Q.low {B : Nat} {w0 w : World} {bq n : Nat} {Z : Nat → Int} {a : Nat → Nat} (h : Q B w0 w bq n Z a) : Below B w0 w := by
  rcases h with ⟨h0, PB, PC, m⟩ | ⟨h0, gp, cp, q, PB, PC, g, pl, cap, xs, hp, m⟩
  · exact m.low
  · exact m.low
/-- from the pushing phase to the popping phase -/
theorem q_pop {B : Nat} {w0 w : World} {bq n : Nat} {Z : Nat → Int} {a : Nat → Nat} (h : Q B w0 w bq n Z a) (hn : 0 < n) : P B w.heap.size w bq n Z a := by
  rcases h with ⟨h0, PB, PC, m⟩ | ⟨h0, gp, cp, q, PB, PC, g, pl, cap, xs, hp, m⟩
  · omega
  · have hQ := mid_qs m
    obtain ⟨cq, tq, hq, hq0, hq1⟩ := m.blkq
    obtain ⟨cg, hgg, hgs, hgc, hgm, hgq, hgj⟩ := m.blkg
    obtain ⟨hBg, cur, hcur, hc1, hc2, hc3, hc4⟩ := owns_open m.last
    have hcn := m.cnt
    refine ⟨gp, cp, q + 1, _, _, _, ⟨hQ.1, hQ.2.1, ⟨frozen_of_row w bq 0 cq tq hq, frozen_of_row w bq 1 cq tq hq⟩, fun j hj => frozen_of_row w gp j cg 81 hgg, by omega, fun j hj => ?_, ⟨m.bB.1, lt_of_block hq⟩, ⟨m.bB.2.1, lt_of_block hgg⟩, fun j hj => ?_, Nat.le_refl _, hgc⟩⟩
    · by_cases e : j = q
      · subst e; simp only [pgB, if_true]; omega
      · simp only [pgB, if_neg e]
        obtain ⟨_, _, _, _, cs, _, _, h7⟩ := m.full j (by omega)
        have hj2 : j < q := by omega
        have : (j + 1) * 1024 ≤ q * 1024 := Nat.mul_le_mul_right _ hj2
        omega
    · by_cases e : j = q
      · subst e; simp only [pgB, if_true]; exact ⟨hBg, lt_of_block hcur⟩
      · simp only [pgB, if_neg e]
        obtain ⟨h1, _, _, _, cs, h5, _⟩ := m.full j (by omega)
        exact ⟨h1, lt_of_block h5⟩

/-- the ids in the queue: each below k, each once -/
def Ids (a : Nat → Nat) (m n : Nat) : Prop := (∀ i, i < m → a i < n) ∧ ∀ i j, i < m → j < m → a i = a j → i = j
theorem Ids.mono {a : Nat → Nat} {m n n' : Nat} (h : Ids a m n) (hn : n ≤ n') : Ids a m n' := ⟨fun i hi => Nat.lt_of_lt_of_le (h.1 i hi) hn, h.2⟩
theorem ids_push {a a' : Nat → Nat} {k : Nat} (h : Ids a k k) (hs : Same (fun i => if i = k then k else a i) a' (k + 1)) : Ids a' (k + 1) (k + 1) := by
  have lt : ∀ i, i < k + 1 → (fun i => if i = k then k else a i) i < k + 1 := fun i hi => by
    by_cases e : i = k
    · simp [e]
    · have := h.1 i (by omega)
      simp only [if_neg e]; omega
  refine ⟨fun i hi => ?_, hs.2 (fun i j hi hj e => ?_)⟩
  · obtain ⟨x, hx, e⟩ := hs.1 i hi
    rw [e]; exact lt x hx
  · by_cases ei : i = k <;> by_cases ej : j = k
    · omega
    · simp only [if_pos ei, if_neg ej] at e
      have := h.1 j (by omega); omega
    · simp only [if_neg ei, if_pos ej] at e
      have := h.1 i (by omega); omega
    · simp only [if_neg ei, if_neg ej] at e
      exact h.2 i j (by omega) (by omega) e
/-- after a pop: what is left was there, each once, and none is what was popped -/
theorem ids_pop {a a' : Nat → Nat} {m n : Nat} (h : Ids a (m + 1) n) (hs : Same (swp a 0 m) a' m) : Ids a' m n ∧ ∀ i, i < m → a' i ≠ a 0 ∧ ∃ x, x < m + 1 ∧ a' i = a x := by
  have key : ∀ x, x < m → ∃ y, 0 < y ∧ y < m + 1 ∧ swp a 0 m x = a y := fun x hx => by
    by_cases e : x = 0
    · subst e; exact ⟨m, by omega, by omega, swp_i a 0 m⟩
    · exact ⟨x, by omega, by omega, swp_o a e (by omega)⟩
  have far : ∀ i, i < m → a' i ≠ a 0 ∧ ∃ x, x < m + 1 ∧ a' i = a x := fun i hi => by
    obtain ⟨x, hx, e⟩ := hs.1 i hi
    obtain ⟨y, y0, y1, e2⟩ := key x hx
    rw [e, e2]
    exact ⟨fun e3 => by have := h.2 y 0 y1 (by omega) e3; omega, y, y1, rfl⟩
  refine ⟨⟨fun i hi => ?_, hs.2 (fun i j hi hj e => ?_)⟩, far⟩
  · obtain ⟨_, x, hx, e⟩ := far i hi
    rw [e]; exact h.1 x hx
  · have s := (swp_same a (m := m + 1) (i := 0) (j := m) (by omega) (by omega)).2 h.2
    exact s i j (by omega) (by omega) e
end Go.Proofs.Qxb6614053a
