import Derived.Test.Qxb6614053aPopB
namespace Go.Proofs.Qxb6614053a
open Go.ChangeShapes Go.WideShapes Go.ChangeAt Go.RowKit

theorem there_of_block {w w' : World} {b o n : Nat} (h : w.there b o n) (e : w'.heap[b]? = w.heap[b]?) : w'.there b o n := fun j hj => by
  have := h j hj
  exact ⟨by rw [World.cell?_of_block (w := w) (a := ⟨b, o + j, none⟩) e]; exact this.1, by rw [World.frozen?_of_block (w := w) (a := ⟨b, o + j, none⟩) e]; exact this.2⟩
theorem P.lim {B C : Nat} {w : World} {bq n : Nat} {Z : Nat → Int} {a : Nat → Nat} (h : P B C w bq n Z a) : C ≤ w.heap.size ∧ B ≤ C := by
  obtain ⟨gp, cp, np, PB, PL, PC, h⟩ := h
  exact ⟨h.lim.2.2.2.1, by have := h.lim.1; omega⟩
theorem P.far {B C : Nat} {w w' : World} {bq n : Nat} {Z : Nat → Int} {a : Nat → Nat} (h : P B C w bq n Z a) (hb : ∀ b, b < C → w'.heap[b]? = w.heap[b]?) (hs : w.heap.size ≤ w'.heap.size) : P B C w' bq n Z a := by
  obtain ⟨gp, cp, np, PB, PL, PC, h⟩ := h
  obtain ⟨⟨g1, g2⟩, g3, g4, g5, ⟨lq, lg, hbg, hn⟩, g9⟩ := h.geo
  obtain ⟨l1, l2, l3, l4, l5⟩ := h.lim
  have cell : ∀ b i, b < C → w'.cell? ⟨b, i, none⟩ = w.cell? ⟨b, i, none⟩ := fun b i h1 => World.cell?_of_block (w := w) (a := ⟨b, i, none⟩) (hb b h1)
  have frz : ∀ b i, b < C → w'.frozen? ⟨b, i, none⟩ = w.frozen? ⟨b, i, none⟩ := fun b i h1 => World.frozen?_of_block (w := w) (a := ⟨b, i, none⟩) (hb b h1)
  refine ⟨gp, cp, np, PB, PL, PC, ⟨⟨⟨(cell _ _ l1.2).trans g1, (cell _ _ l1.2).trans g2⟩, fun j hj => (cell _ _ l2.2).trans (g3 j hj), fun j hj => ⟨by have := (g4 j hj).1; omega, (g4 j hj).2⟩, g5, ⟨by omega, by omega, hbg, hn⟩, g9⟩, ?_, ⟨(frz _ _ l1.2).trans h.fq.1, (frz _ _ l1.2).trans h.fq.2⟩, fun j hj => (frz _ _ l2.2).trans (h.fg j hj), h.cnt, h.len, ⟨l1, l2, l3, by omega, l5⟩⟩⟩
  exact ents_blocks (np := np) h.ents (Nat.le_refl _) (fun i hi => (g9 i hi).1) (fun j hj => hb _ (l3 j hj).2)

theorem held_mk {w w1 : World} (hb : Below w.heap.size w w1) (ht : w1.there w.heap.size 0 35) (vs : List Value) (hv : vs.length = 35) : Below w.heap.size w ((w1.alloc (.cells z55 55)).setCells w1.heap.size 0 vs) ∧
    ((w1.alloc (.cells z55 55)).setCells w1.heap.size 0 vs).rangeAt w1.heap.size 0 vs ∧ ((w1.alloc (.cells z55 55)).setCells w1.heap.size 0 vs).there w.heap.size 0 35 ∧ w1.heap.size < ((w1.alloc (.cells z55 55)).setCells w1.heap.size 0 vs).heap.size := by
  refine ⟨below_setCells hb.size _ _ _ (hb.alloc hb.size _), World.rangeAt_setCells_same _ _ _ _ (by rw [hv]; exact there_z _ _ rfl), World.there_setCells (World.there_alloc ht _) _ _ _, ?_⟩
  rw [(same_setCells _ _ _).2]
  simp

set_option linter.unusedSimpArgs false in
set_option maxHeartbeats 1000000 in
set_option maxRecDepth 100000 in
theorem pop_any {B C : Nat} {w : World} {bq n : Nat} {Z : Nat → Int} {a : Nat → Nat} (h : P B C w bq (n + 1) Z a) (hh : Heap Z a (n + 1)) :
    Calls Try.prog 21 #[.pointer (some ⟨bq, 0, none⟩)] w fun e w' => e = .returned (.agg (ent Z (a 0)).toArray) ∧ ∃ a', P B C w' bq n Z a' ∧ Same (swp a 0 n) a' n ∧ Heap Z a' n ∧ Keep B C w w' := by
  have HF : Hid (∀ x, Below w.heap.size w x → Calls Try.prog 29 #[.pointer (some ⟨bq, 0, none⟩)] x fun e w' => e = .returned (.agg (ent Z (a 0)).toArray) ∧ Below x.heap.size x w') := fun x hx => first_any (h.kept hx)
  have HP : Hid (∀ x, Below w.heap.size w x → Calls Try.prog 30 #[.iface 24 (.pointer (some ⟨bq, 0, none⟩))] x fun e w' => e = .returned .nilIface ∧ ∃ a', P B C w' bq n Z a' ∧ Same (swp a 0 n) a' n ∧ Heap Z a' n ∧ Keep B C x w') := fun x hx => hpop_any (h.kept hx) hh
  have hC := h.lim.1
  clear h hh
  obtain ⟨vs, hv⟩ : ∃ vs, ent Z (a 0) = vs := ⟨_, rfl⟩
  have hvs : vs.length = 35 := by rw [← hv]; rfl
  have hvo : vs.toArray.all (·.oneCell') = true := by rw [← hv]; exact ent_one _ _
  rw [hv] at HF ⊢
  clear hv
  go_enter Try.func21, Try.ntmps21
  go_wp2_with (first
    | (go_at_call 29; refine (HF.out _ (by exact (Below.refl _ _).alloc (Nat.le_refl _) _)).mono ?_; rintro e w1 ⟨rfl, hb1⟩; have HB1 : Below w.heap.size w w1 := ((Below.refl _ _).alloc (Nat.le_refl _) _).trans (hb1.mono (by simp)); have HT1 : w1.there w.heap.size 0 35 := there_of_block (there_z w _ rfl) (hb1.block _ (by simp)); have HS1 : w.heap.size < w1.heap.size := Nat.lt_of_lt_of_le (by simp) hb1.size; have HM := held_mk HB1 HT1 vs hvs; clear hb1)
    | (go_at_call 30; refine (HP.out _ (by exact HM.1)).mono ?_; rintro e w2 ⟨rfl, q2⟩; have HQ2 : Hid (∃ a', P B C w2 bq n Z a' ∧ Same (swp a 0 n) a' n ∧ Heap Z a' n ∧ Keep B C ((w1.alloc (.cells z55 55)).setCells w1.heap.size 0 vs) w2) := q2; clear q2;
       have HR2 : w2.rangeAt w1.heap.size 0 vs := (by obtain ⟨_, _, _, _, hk⟩ := HQ2.out; exact range_of_block HM.2.1 (hk.2.2 _ HM.2.2.2 (.inr (by omega)))); have HT2 : w2.there w.heap.size 0 35 := (by obtain ⟨_, _, _, _, hk⟩ := HQ2.out; exact there_of_block HM.2.2.1 (hk.2.2 _ (Nat.lt_trans HS1 HM.2.2.2) (.inr hC))))
    | (refine wpList_load_mid rfl 55 (.tmp 3) rfl w1.heap.size 0 rfl vs _ (by exact HR2) Try.underlying55 rfl (i55w vs hvs) ?_)
    | (refine wpList_store_mid rfl 55 (.tmp 3) (.tmp 5) rfl w1.heap.size 0 vs.toArray rfl rfl (there_vs _ _ vs hvs rfl) (i55v vs hvs) hvo ?_)
    | (refine wpList_store_mid rfl 55 (.tmp 2) (.tmp 9) rfl w.heap.size 0 vs.toArray rfl rfl (by rw [show vs.toArray.size = 35 from hvs]; exact HT2) (i55v vs hvs) hvo ?_))
  refine bodyPost_ret (v := .agg vs.toArray) (res_cell Try.results21 _ _ w.heap.size 0 rfl vs _ (World.rangeAt_setCells_same _ _ _ _ (by rw [hvs]; exact HT2)) Try.underlying55 rfl (i55w vs hvs)) rfl ⟨rfl, ?_⟩
  obtain ⟨a', hP, hs, hh, hk⟩ := HQ2.out
  refine ⟨a', hP.far (fun b hb => heap_setCells_other _ _ _ b (by omega)) (by rw [(same_setCells _ _ _).2]; exact Nat.le_refl _), hs, hh, ?_⟩
  have k1 : Keep B C w w2 := (Keep.of_below HM.1).trans hk
  refine ⟨by rw [(same_setCells _ _ _).1.1, (same_setCells _ _ _).1.2.1, (same_setCells _ _ _).1.2.2]; exact k1.1, by rw [(same_setCells _ _ _).2]; exact k1.2.1, fun b hb hc => ?_⟩
  exact (heap_setCells_other _ _ _ b (by omega)).trans (k1.2.2 b hb hc)
end Go.Proofs.Qxb6614053a
