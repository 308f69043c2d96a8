import Derived.Test.Qxb6614053aDrop
namespace Go.Proofs.Qxb6614053a
open Go.ChangeShapes Go.WideShapes Go.ChangeAt Go.RowKit

set_option linter.unusedSimpArgs false in
set_option maxHeartbeats 4000000 in
set_option maxRecDepth 100000 in
theorem drop_last (bq gp np cp q n pb pc : Nat) (vs : List Value) (w : World) (hn : n ≤ 65536) (hn1 : 1 ≤ n) (hnp : np = q + 1) (hnp2 : np ≤ 65) (hcp : np ≤ cp) (hpc : 1 ≤ pc) (hvs : vs.length = 35) (hvo : vs.toArray.all (·.oneCell') = true)
    (c0 : w.cell? ⟨bq, 0, none⟩ = some (.slice (some ⟨gp, 0, none⟩) np cp)) (c1 : w.cell? ⟨bq, 1, none⟩ = some (.int .i64 n)) (f0 : w.frozen? ⟨bq, 0, none⟩ = false) (f1 : w.frozen? ⟨bq, 1, none⟩ = false)
    (cg : w.cell? ⟨gp, q, none⟩ = some (.slice (some ⟨pb, 0, none⟩) 1 pc)) (fg : w.frozen? ⟨gp, q, none⟩ = false) (hr : w.rangeAt pb 0 vs) (lq : bq < w.heap.size) (lg : gp < w.heap.size) (lp : pb < w.heap.size) (hbg : bq ≠ gp) :
    Calls Try.prog 57 #[.pointer (some ⟨bq, 0, none⟩)] w fun e w' => e = .returned (.agg vs.toArray) ∧ ∃ W, Two w W vs ∧ w' = ((((W.setCell ⟨gp, q, none⟩ (.slice (some ⟨pb, 0, none⟩) 0 pc)).drew.setCell ⟨gp, q, none⟩ (.slice none 0 0)).setCell ⟨bq, 0, none⟩ (.slice (some ⟨gp, 0, none⟩) q cp)).setCell ⟨bq, 1, none⟩ (.int .i64 ((n : Int) - 1))).setCells w.heap.size 0 vs := by
  have e1 : (np : Int) - 1 = (q : Int) := by omega
  have e3 : (q : Int) < (np : Int) := by omega
  have e5 : (q : Int) ≤ (cp : Int) := by omega
  have e6 : (0 : Int) ≤ (pc : Int) := by omega
  have H1 : Hid (np = q + 1 ∧ np ≤ cp) := ⟨hnp, hcp⟩
  clear hnp hcp
  go_enter Try.func57, Try.ntmps57
  go_wp2_with (first
    | (refine wpList_load_mid rfl 55 (.tmp 23) rfl pb 0 rfl vs _ (by exact range_of_block hr (((Below.refl _ _).alloc (Nat.le_refl _) _).block _ lp)) Try.underlying55 rfl (i55w vs hvs) ?_)
    | (refine wpList_store_mid rfl 55 (.tmp 5) (.tmp 24) rfl (w.heap.size + 1) 0 vs.toArray rfl rfl (there_vs _ _ vs hvs (by simp)) (i55v vs hvs) hvo ?_))
  refine wp_gen (fun x => Two w x vs) (two_mk w vs hvs) ?_
  rintro W hW
  have HW : Hid (Two w W vs) := hW
  obtain ⟨hB, hr1, ht0, hs1⟩ := hW
  replace c0 := (hB.cell (p := ⟨bq, 0, none⟩) lq).trans c0
  replace c1 := (hB.cell (p := ⟨bq, 1, none⟩) lq).trans c1
  replace cg := (hB.cell (p := ⟨gp, q, none⟩) lg).trans cg
  replace f0 := (hB.frozen (p := ⟨bq, 0, none⟩) lq).trans f0
  replace f1 := (hB.frozen (p := ⟨bq, 1, none⟩) lq).trans f1
  replace fg := (hB.frozen (p := ⟨gp, q, none⟩) lg).trans fg
  have nq : w.heap.size ≠ bq := by omega
  have ng : w.heap.size ≠ gp := by omega
  have nq1 : w.heap.size + 1 ≠ bq := by omega
  have ng1 : w.heap.size + 1 ≠ gp := by omega
  clear hB hr
  simp only [Act.put]
  go_region
  obtain ⟨X, hX⟩ : ∃ X, (W.setCell ⟨gp, q, none⟩ (.slice (some ⟨pb, 0, none⟩) 0 pc)).drew = X := ⟨_, rfl⟩
  have k0 : X.cell? ⟨bq, 0, none⟩ = some (.slice (some ⟨gp, 0, none⟩) np cp) := by rw [← hX]; exact (World.cell?_setCell_far W ⟨gp, q, none⟩ ⟨bq, 0, none⟩ _ (Ne.symm hbg)).trans c0
  have k1 : X.cell? ⟨bq, 1, none⟩ = some (.int .i64 n) := by rw [← hX]; exact (World.cell?_setCell_far W ⟨gp, q, none⟩ ⟨bq, 1, none⟩ _ (Ne.symm hbg)).trans c1
  have kg : X.cell? ⟨gp, q, none⟩ = some (.slice (some ⟨pb, 0, none⟩) 0 pc) := by rw [← hX]; exact World.cell?_setCell_same W ⟨gp, q, none⟩ _ cg
  have g0 : X.frozen? ⟨bq, 0, none⟩ = false := by rw [← hX]; exact (World.frozen?_setCell _ _ _ _).trans f0
  have g1 : X.frozen? ⟨bq, 1, none⟩ = false := by rw [← hX]; exact (World.frozen?_setCell _ _ _ _).trans f1
  have gg : X.frozen? ⟨gp, q, none⟩ = false := by rw [← hX]; exact (World.frozen?_setCell _ _ _ _).trans fg
  have rX : X.rangeAt (w.heap.size + 1) 0 vs := by rw [← hX]; exact range_setCell_far hr1 ⟨gp, q, none⟩ _ ng1
  have tX : X.there w.heap.size 0 35 := by rw [← hX]; exact there_setCell ht0 gp q _
  have HX : Hid ((W.setCell ⟨gp, q, none⟩ (.slice (some ⟨pb, 0, none⟩) 0 pc)).drew = X) := hX
  rw [hX]
  clear hX c0 c1 cg f0 f1 fg hr1 ht0
  have n0 : (X.setCell ⟨gp, q, none⟩ (.slice none 0 0)).cell? ⟨bq, 0, none⟩ = some (.slice (some ⟨gp, 0, none⟩) np cp) := (World.cell?_setCell_far X ⟨gp, q, none⟩ ⟨bq, 0, none⟩ _ (Ne.symm hbg)).trans k0
  have n1 : (X.setCell ⟨gp, q, none⟩ (.slice none 0 0)).cell? ⟨bq, 1, none⟩ = some (.int .i64 n) := (World.cell?_setCell_far X ⟨gp, q, none⟩ ⟨bq, 1, none⟩ _ (Ne.symm hbg)).trans k1
  have r1 : (((X.setCell ⟨gp, q, none⟩ (.slice none 0 0)).setCell ⟨bq, 0, none⟩ (.slice (some ⟨gp, 0, none⟩) q cp)).setCell ⟨bq, 1, none⟩ (.int .i64 ((n : Int) - 1))).rangeAt (w.heap.size + 1) 0 vs := range_setCell_far (range_setCell_far (range_setCell_far rX ⟨gp, q, none⟩ _ ng1) ⟨bq, 0, none⟩ _ nq1) ⟨bq, 1, none⟩ _ nq1
  have t0 : (((X.setCell ⟨gp, q, none⟩ (.slice none 0 0)).setCell ⟨bq, 0, none⟩ (.slice (some ⟨gp, 0, none⟩) q cp)).setCell ⟨bq, 1, none⟩ (.int .i64 ((n : Int) - 1))).there w.heap.size 0 35 := there_setCell (there_setCell (there_setCell tX gp q _) bq 0 _) bq 1 _
  have t1 : (((X.setCell ⟨gp, q, none⟩ (.slice none 0 0)).setCell ⟨bq, 0, none⟩ (.slice (some ⟨gp, 0, none⟩) q cp)).setCell ⟨bq, 1, none⟩ (.int .i64 ((n : Int) - 1))).there w.heap.size 0 vs.toArray.size := by
    rw [show vs.toArray.size = 35 from hvs]; exact t0
  have t2 : (((X.setCell ⟨gp, q, none⟩ (.slice none 0 0)).setCell ⟨bq, 0, none⟩ (.slice (some ⟨gp, 0, none⟩) q cp)).setCell ⟨bq, 1, none⟩ (.int .i64 ((n : Int) - 1))).there w.heap.size 0 vs.length := by
    rw [hvs]; exact t0
  clear rX tX t0
  go_wp2_with (first
    | (refine wpList_load_mid rfl 55 (.tmp 5) rfl (w.heap.size + 1) 0 rfl vs _ (by exact r1) Try.underlying55 rfl (i55w vs hvs) ?_)
    | (refine wpList_store_mid rfl 55 (.tmp 2) (.tmp 61) rfl w.heap.size 0 vs.toArray rfl rfl (by exact t1) (i55v vs hvs) hvo ?_))
  exact bodyPost_ret (v := .agg vs.toArray) (res_cell Try.results57 _ _ w.heap.size 0 rfl vs _ (World.rangeAt_setCells_same _ _ _ _ (by simpa using t2)) Try.underlying55 rfl (i55w vs hvs)) rfl ⟨rfl, W, HW.out, by rw [HX.out]⟩
end Go.Proofs.Qxb6614053a
