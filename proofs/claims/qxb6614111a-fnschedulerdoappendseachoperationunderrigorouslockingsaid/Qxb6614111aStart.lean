import Derived.Test.Qxb6614111aInv
namespace Go.Proofs.Qxb6614111a
open Go.ChangeShapes Go.WideShapes Go.ChangeAt Go.RowKit

def schedCells (bh : Nat) (v : Value) : Array Value := #[.pointer (some ⟨bh, 0, none⟩), .int .u8 0, .pointer none, v, .pointer none, .pointer none, .pointer none, .pointer none, .int .i32 0, .slice none 0 0, .slice none 0 0, .slice none 0 0, .slice none 0 0, .pointer none, .slice none 0 0, .nilFunc, .nilFunc]

set_option maxHeartbeats 1000000 in
theorem newSched_any (bh g n c : Nat) (w : World) :
    Calls Try.prog 6 #[.pointer (some ⟨bh, 0, none⟩), .slice (some ⟨g, 0, none⟩) n c] w fun e w' => e = .returned (.pointer (some ⟨w.heap.size, 0, none⟩)) ∧ w' = w.alloc (.cells (schedCells bh (.slice (some ⟨g, 0, none⟩) n c)) 56) := by
  go_enter Try.func6, Try.ntmps6
  go_wp2
  go_ret
  exact ⟨rfl, rfl⟩

theorem row_below {w w' : World} {base base' e size g n cap : Nat} {xs : List Value} (h : w.ownsRow base e size (.slice (some ⟨g, 0, none⟩) n cap) n xs) (hb : Below w.heap.size w w') (hl : base' ≤ g) :
    w'.ownsRow base' e size (.slice (some ⟨g, 0, none⟩) n cap) n xs := by
  refine ⟨h.1, ?_⟩
  rcases h.2 with ⟨h', _⟩ | ⟨g', cap', cur, h', hbg, hg, rest⟩
  · simp at h'
  · simp only [Value.slice.injEq, Option.some.injEq, Addr.mk.injEq, and_true, true_and] at h'
    obtain ⟨rfl, rfl⟩ := h'
    have hlt : g < w.heap.size := by
      rcases Nat.lt_or_ge g w.heap.size with h1 | h1
      · exact h1
      · rw [Array.getElem?_eq_none h1] at hg; cases hg
    exact .inr ⟨g, cap, cur, rfl, hl, (hb.block g hlt).trans hg, rest⟩

theorem new_cell (w : World) (cs : Array Value) (t : TypeId) (o : Nat) (u : Value) (h : cs[o]? = some u) : (w.alloc (.cells cs t)).cell? ⟨w.heap.size, o, none⟩ = some u := by
  rw [cell_of_row _ w.heap.size o cs t (0, 0) (heap_alloc_new w _)]
  exact h
theorem new_frozen (w : World) (cs : Array Value) (t : TypeId) (o : Nat) : (w.alloc (.cells cs t)).frozen? ⟨w.heap.size, o, none⟩ = false :=
  frozen_of_row _ w.heap.size o cs t (heap_alloc_new w _)

theorem inv_start {w wo wp : World} {nops np : Nat} {K T X KP TP XP : Nat → Int} {S : Nat → Nat} {xo xp : List Value} {hc : Array Value}
    (hxo : wo.ownsRow w.heap.size 43 3 (.slice (some ⟨w.heap.size, 0, none⟩) nops nops) nops xo) (hfo : Filled xo nops K T X) (hBo : Below w.heap.size w wo) (hszo : wo.heap.size = w.heap.size + 1)
    (hh : hc[0]? = some (.slice (some ⟨w.heap.size, 0, none⟩) nops nops))
    (hxp : wp.ownsRow (wo.alloc (.cells hc 31)).heap.size 43 3 (.slice (some ⟨(wo.alloc (.cells hc 31)).heap.size, 0, none⟩) np np) np xp) (hfp : Filled xp np KP TP XP)
    (hBp : Below (wo.alloc (.cells hc 31)).heap.size (wo.alloc (.cells hc 31)) wp) (hszp : wp.heap.size = (wo.alloc (.cells hc 31)).heap.size + 1) :
    Inv w (wp.alloc (.cells (schedCells (w.heap.size + 1) (.slice (some ⟨w.heap.size + 1 + 1, 0, none⟩) np np)) 56)) (w.heap.size + 1 + 1 + 1) (w.heap.size + 1) w.heap.size nops np 0 K T X KP TP XP S := by
  have ea : (wo.alloc (.cells hc 31)).heap.size = w.heap.size + 1 + 1 := by simp [hszo]
  have ep : wp.heap.size = w.heap.size + 1 + 1 + 1 := by rw [hszp, ea]
  have hh1 := new_cell wo hc 31 0 _ hh
  rw [hszo] at hh1
  have hBa : Below wo.heap.size wo (wo.alloc (.cells hc 31)) := (Below.refl _ _).alloc (Nat.le_refl _) _
  have hBs : Below wp.heap.size wp (wp.alloc (.cells (schedCells (w.heap.size + 1) (.slice (some ⟨w.heap.size + 1 + 1, 0, none⟩) np np)) 56)) := (Below.refl _ _).alloc (Nat.le_refl _) _
  have hBop : Below wo.heap.size wo wp := hBa.trans (hBp.mono (by rw [ea, hszo]; omega))
  have hBall : Below wo.heap.size wo (wp.alloc (.cells (schedCells (w.heap.size + 1) (.slice (some ⟨w.heap.size + 1 + 1, 0, none⟩) np np)) 56)) := hBop.trans (hBs.mono (by rw [ep, hszo]; omega))
  have n0 := new_cell wp (schedCells (w.heap.size + 1) (.slice (some ⟨w.heap.size + 1 + 1, 0, none⟩) np np)) 56 0 _ rfl
  have n2 := new_cell wp (schedCells (w.heap.size + 1) (.slice (some ⟨w.heap.size + 1 + 1, 0, none⟩) np np)) 56 2 _ rfl
  have n3 := new_cell wp (schedCells (w.heap.size + 1) (.slice (some ⟨w.heap.size + 1 + 1, 0, none⟩) np np)) 56 3 _ rfl
  have n14 := new_cell wp (schedCells (w.heap.size + 1) (.slice (some ⟨w.heap.size + 1 + 1, 0, none⟩) np np)) 56 14 _ rfl
  have nf := new_frozen wp (schedCells (w.heap.size + 1) (.slice (some ⟨w.heap.size + 1 + 1, 0, none⟩) np np)) 56 3
  rw [ep] at n0 n2 n3 n14 nf
  have es : (wp.alloc (.cells (schedCells (w.heap.size + 1) (.slice (some ⟨w.heap.size + 1 + 1, 0, none⟩) np np)) 56)).heap.size = w.heap.size + 1 + 1 + 1 + 1 := by simp [ep]
  rw [ea] at hxp
  refine ⟨hBo.trans (hBall.mono (by omega)), ⟨by omega, by omega, by omega, by omega, by omega, by omega⟩, ⟨n0, n2, n14, nf⟩, ?_, ?_, w.heap.size + 1 + 1, np, xp, n3, row_below hxp hBs (by omega), ⟨hfp, fun j hj => by omega⟩, ⟨by omega, by omega, by omega, by omega⟩⟩
  · rw [hBs.cell (p := ⟨w.heap.size + 1, 0, none⟩) (by show w.heap.size + 1 < wp.heap.size; omega), hBp.cell (p := ⟨w.heap.size + 1, 0, none⟩) (by show w.heap.size + 1 < (wo.alloc (.cells hc 31)).heap.size; omega)]
    exact hh1
  · intro i hi
    obtain ⟨a, b, c⟩ := hfo i hi
    have hl : w.heap.size < wo.heap.size := by omega
    rw [hBall.cell (p := ⟨w.heap.size, 0 + i * 3, none⟩) hl, hBall.cell (p := ⟨w.heap.size, 0 + i * 3 + 1, none⟩) hl, hBall.cell (p := ⟨w.heap.size, 0 + i * 3 + 2, none⟩) hl]
    simp only [Nat.zero_add]
    rw [hxo.cellAt (i * 3) (by omega), hxo.cellAt (i * 3 + 1) (by omega), hxo.cellAt (i * 3 + 2) (by omega)]
    exact ⟨a, b, c⟩
end Go.Proofs.Qxb6614111a
