import Derived.Test.Qxb6614053aLawA
namespace Go.Proofs.Qxb6614053a
open Go.ChangeShapes Go.WideShapes Go.ChangeAt Go.RowKit

/-- the queue and the marks in the popping loop -/
def Inv2 (w wr : World) (bq u n m : Nat) (Z : Nat → Int) (a : Nat → Nat) : Prop :=
  P bq u wr bq m Z a ∧ Heap Z a m ∧ Ids a m n ∧ Below bq w wr ∧ ∃ cs : Array Value, wr.heap[u]? = some (.cells cs 4 (0, 0)) ∧ cs.size = n ∧ ∀ i, i < m → cs[a i]? = some (.bool false)

theorem inv_step {w wr w1 w2 : World} {bq u n m : Nat} {Z : Nat → Int} {a : Nat → Nat} (h : Inv2 w wr bq u n (m + 1) Z a) (q : ∃ a', P bq u w1 bq m Z a' ∧ Same (swp a 0 m) a' m ∧ Heap Z a' m ∧ Keep bq u wr w1) (hb : Below w1.heap.size w1 w2) :
    (w2.cell? ⟨u, a 0, none⟩ = some (.bool false) ∧ w2.frozen? ⟨u, a 0, none⟩ = false) ∧ ∃ a', Inv2 w (w2.setCell ⟨u, a 0, none⟩ (.bool true)) bq u n m Z a' ∧ ∀ i, i < m → Z (a 0) ≤ Z (a' i) := by
  obtain ⟨hP, hh, hid, hB, cs, hu, hs, hf⟩ := h
  obtain ⟨a', hP', hsm, hh', hk⟩ := q
  have lu := lt_of_block hu
  have hl := hP.lim
  have hu1 : w1.heap[u]? = some (.cells cs 4 (0, 0)) := (hk.2.2 u lu (.inr (Nat.le_refl _))).trans hu
  have hu2 : w2.heap[u]? = some (.cells cs 4 (0, 0)) := (hb.block u (lt_of_block hu1)).trans hu1
  obtain ⟨hid', hfar⟩ := ids_pop hid hsm
  refine ⟨⟨by rw [cell_row hu2]; exact hf 0 (by omega), frozen_of_row w2 u (a 0) cs 4 hu2⟩, a', ⟨?_, hh', hid', ?_, cs.setIfInBounds (a 0) (.bool true), heap_setCell_same w2 u (a 0) cs 4 _ hu2, by simpa using hs, fun i hi => ?_⟩, fun i hi => ?_⟩
  · exact (hP'.kept hb).far (fun b hb' => heap_setCell_other w2 ⟨u, a 0, none⟩ b _ (by show b ≠ u; omega)) (by simp)
  · have hBw : bq ≤ wr.heap.size := by omega
    have hs1 := hk.2.1
    exact (((hB.trans (hk.below hBw)).trans (hb.mono (by omega))).setCell (p := ⟨u, a 0, none⟩) hl.2 _)
  · obtain ⟨hne, x, hx, e⟩ := hfar i hi
    rw [Array.getElem?_setIfInBounds_ne (Ne.symm hne), e]
    exact hf x hx
  · obtain ⟨_, x, hx, e⟩ := hfar i hi
    rw [e]
    exact root_least hh _ x (Nat.le_refl _) hx
end Go.Proofs.Qxb6614053a
