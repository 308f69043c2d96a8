import Derived.Test.Qxb6614053aMid
namespace Go.Proofs.Qxb6614053a
open Go.ChangeShapes Go.WideShapes Go.ChangeAt Go.RowKit

theorem heap_setCells_other {r : Nat} : ∀ (vs : List Value) (o : Nat) (x : World) (b : Nat), b ≠ r → (x.setCells r o vs).heap[b]? = x.heap[b]?
  | [], _, _, _, _ => rfl
  | v :: t, o, x, b, h => (heap_setCells_other t (o + 1) (x.setCell ⟨r, o, none⟩ v) b h).trans (heap_setCell_other x ⟨r, o, none⟩ b v h)
theorem same_setCells {r : Nat} : ∀ (vs : List Value) (o : Nat) (x : World), ((x.setCells r o vs).os = x.os ∧ (x.setCells r o vs).tape = x.tape ∧ (x.setCells r o vs).output = x.output) ∧ (x.setCells r o vs).heap.size = x.heap.size
  | [], _, _ => ⟨⟨rfl, rfl, rfl⟩, rfl⟩
  | v :: t, o, x => by
    have h := same_setCells (r := r) t (o + 1) (x.setCell ⟨r, o, none⟩ v)
    exact ⟨h.1, h.2.trans (by simp)⟩
theorem range_setCell_far {x : World} {b o : Nat} {vs : List Value} (h : x.rangeAt b o vs) (p : Addr) (v : Value) (hne : b ≠ p.block) : (x.setCell p v).rangeAt b o vs := range_of_block h (heap_setCell_other x p b v hne)
theorem there_setCell {x : World} {b o n : Nat} (h : x.there b o n) (g i : Nat) (v : Value) : (x.setCell ⟨g, i, none⟩ v).there b o n := World.there_setCells h g i [v]

abbrev z55 : Array Value := #[.int .u8 0, .int .u8 0, .int .u8 0, .int .u8 0, .int .u8 0, .int .u8 0, .int .u8 0, .int .u8 0, .int .u8 0, .int .u8 0, .int .u8 0, .int .u8 0, .int .u8 0, .int .u8 0, .int .u8 0, .int .u8 0, .int .u8 0, .int .u8 0, .int .u8 0, .int .u8 0, .int .u8 0, .int .u8 0, .int .u8 0, .int .u8 0, .int .u8 0, .int .u8 0, .int .u8 0, .int .u8 0, .int .u8 0, .int .u8 0, .int .u8 0, .int .u8 0, .int .u64 0, .int .i64 0, .pointer none]
theorem z55_size : z55.size = 35 := rfl
theorem there_z (x : World) (b : Nat) (hb : b = x.heap.size) : (x.alloc (.cells z55 55)).there b 0 35 := there_last _ _ _ _ 35 hb (by rw [z55_size]; omega)

theorem there_vs (x : World) (b : Nat) (vs : List Value) (hv : vs.length = 35) (hb : b = x.heap.size) : (x.alloc (.cells z55 55)).there b 0 vs.toArray.size := by
  rw [List.size_toArray, hv]; exact there_z _ _ hb
theorem i55v (vs : List Value) (hv : vs.length = 35) : (Try.prog.info? 55).map (·.size) = some vs.toArray.size := by
  rw [List.size_toArray, hv]; exact i55

theorem i55w (vs : List Value) (hv : vs.length = 35) : (Try.prog.info? 55).map (·.size) = some vs.length := by
  rw [hv]; exact i55

/-- the world ahead of dropLast's stores: two new rows, the second the last entry -/
def Two (w W : World) (vs : List Value) : Prop := Below w.heap.size w W ∧ W.rangeAt (w.heap.size + 1) 0 vs ∧ W.there w.heap.size 0 35 ∧ w.heap.size + 1 < W.heap.size

theorem two_mk (w : World) (vs : List Value) (hv : vs.length = 35) : Two w (((w.alloc (.cells z55 55)).alloc (.cells z55 55)).setCells (w.heap.size + 1) 0 vs) vs := by
  have ht : ((w.alloc (.cells z55 55)).alloc (.cells z55 55)).there (w.heap.size + 1) 0 35 := there_z _ _ (by simp)
  refine ⟨below_setCells (by omega) _ _ _ (((Below.refl _ _).alloc (Nat.le_refl _) _).alloc (by simp) _), World.rangeAt_setCells_same _ _ _ _ (by rw [hv]; exact ht), World.there_setCells (World.there_alloc (there_z _ _ rfl) _) _ _ _, ?_⟩
  rw [(same_setCells _ _ _).2]
  simp

set_option linter.unusedSimpArgs false in
set_option maxHeartbeats 4000000 in
set_option maxRecDepth 100000 in
theorem drop_more (bq gp np cp q n pb pl pc p1 : Nat) (vs : List Value) (w : World) (hn : n ≤ 65536) (hn1 : 1 ≤ n) (hnp : np = q + 1) (hnp2 : np ≤ 65) (hpl : pl = p1 + 1) (hpl2 : pl ≤ 1024) (hpc : pl ≤ pc) (hp1 : p1 ≠ 0) (hvs : vs.length = 35) (hvo : vs.toArray.all (·.oneCell') = true)
    (c0 : w.cell? ⟨bq, 0, none⟩ = some (.slice (some ⟨gp, 0, none⟩) np cp)) (c1 : w.cell? ⟨bq, 1, none⟩ = some (.int .i64 n)) (f1 : w.frozen? ⟨bq, 1, none⟩ = false)
    (cg : w.cell? ⟨gp, q, none⟩ = some (.slice (some ⟨pb, 0, none⟩) pl pc)) (fg : w.frozen? ⟨gp, q, none⟩ = false) (hr : w.rangeAt pb (p1 * 35) vs) (lq : bq < w.heap.size) (lg : gp < w.heap.size) (lp : pb < w.heap.size) (hbg : bq ≠ gp) :
    Calls Try.prog 57 #[.pointer (some ⟨bq, 0, none⟩)] w fun e w' => e = .returned (.agg vs.toArray) ∧ ∃ W, Two w W vs ∧ w' = ((W.setCell ⟨gp, q, none⟩ (.slice (some ⟨pb, 0, none⟩) p1 pc)).drew.setCell ⟨bq, 1, none⟩ (.int .i64 ((n : Int) - 1))).setCells w.heap.size 0 vs := by
  have e1 : (np : Int) - 1 = (q : Int) := by omega
  have e2 : (pl : Int) - 1 = (p1 : Int) := by omega
  have e3 : (q : Int) < (np : Int) := by omega
  have e4 : (p1 : Int) < (pl : Int) := by omega
  have e5 : (p1 : Int) ≤ (pc : Int) := by omega
  have e6 : ((pl : Int) == 1) = false := by simp; omega
  have H1 : Hid (np = q + 1 ∧ pl = p1 + 1) := ⟨hnp, hpl⟩
  clear hnp hpl hp1 hpc
  go_enter Try.func57, Try.ntmps57
  go_wp2_with (first
    | (refine wpList_load_mid rfl 55 (.tmp 23) rfl pb (p1 * 35) rfl vs _ (by exact range_of_block hr (((Below.refl _ _).alloc (Nat.le_refl _) _).block _ lp)) Try.underlying55 rfl (by rw [hvs]; exact i55) ?_)
    | (refine wpList_store_mid rfl 55 (.tmp 5) (.tmp 24) rfl (w.heap.size + 1) 0 vs.toArray rfl rfl (there_vs _ _ vs hvs (by simp)) (i55v vs hvs) hvo ?_))
  refine wp_gen (fun x => Two w x vs) (two_mk w vs hvs) ?_
  rintro W hW
  have HW : Hid (Two w W vs) := hW
  obtain ⟨hB, hr1, ht0, hs1⟩ := hW
  replace c0 := (hB.cell (p := ⟨bq, 0, none⟩) lq).trans c0
  replace c1 := (hB.cell (p := ⟨bq, 1, none⟩) lq).trans c1
  replace cg := (hB.cell (p := ⟨gp, q, none⟩) lg).trans cg
  replace f1 := (hB.frozen (p := ⟨bq, 1, none⟩) lq).trans f1
  replace fg := (hB.frozen (p := ⟨gp, q, none⟩) lg).trans fg
  have nq : w.heap.size ≠ bq := by omega
  have ng : w.heap.size ≠ gp := by omega
  have nq1 : w.heap.size + 1 ≠ bq := by omega
  have ng1 : w.heap.size + 1 ≠ gp := by omega
  clear hB hr
  simp only [Act.put]
  go_region
  have m1 : (W.setCell ⟨gp, q, none⟩ (.slice (some ⟨pb, 0, none⟩) p1 pc)).drew.cell? ⟨bq, 1, none⟩ = some (.int .i64 n) := (World.cell?_setCell_far W ⟨gp, q, none⟩ ⟨bq, 1, none⟩ _ (Ne.symm hbg)).trans c1
  have m2 : (W.setCell ⟨gp, q, none⟩ (.slice (some ⟨pb, 0, none⟩) p1 pc)).drew.frozen? ⟨bq, 1, none⟩ = false := (World.frozen?_setCell _ _ _ _).trans f1
  have r1 : ((W.setCell ⟨gp, q, none⟩ (.slice (some ⟨pb, 0, none⟩) p1 pc)).drew.setCell ⟨bq, 1, none⟩ (.int .i64 ((n : Int) - 1))).rangeAt (w.heap.size + 1) 0 vs := range_setCell_far (x := (W.setCell ⟨gp, q, none⟩ (.slice (some ⟨pb, 0, none⟩) p1 pc)).drew) (range_setCell_far hr1 ⟨gp, q, none⟩ _ ng1) ⟨bq, 1, none⟩ _ nq1
  have t1 : ((W.setCell ⟨gp, q, none⟩ (.slice (some ⟨pb, 0, none⟩) p1 pc)).drew.setCell ⟨bq, 1, none⟩ (.int .i64 ((n : Int) - 1))).there w.heap.size 0 vs.toArray.size := by
    rw [show vs.toArray.size = 35 from hvs]
    exact there_setCell (x := (W.setCell ⟨gp, q, none⟩ (.slice (some ⟨pb, 0, none⟩) p1 pc)).drew) (there_setCell ht0 gp q _) bq 1 _
  have t2 : ((W.setCell ⟨gp, q, none⟩ (.slice (some ⟨pb, 0, none⟩) p1 pc)).setCell ⟨bq, 1, none⟩ (.int .i64 ((n : Int) - 1))).there w.heap.size 0 vs.length := by
    rw [hvs]
    exact there_setCell (there_setCell ht0 gp q _) bq 1 _
  clear c0 c1 cg f1 fg
  go_wp2_with (first
    | (refine wpList_load_mid rfl 55 (.tmp 5) rfl (w.heap.size + 1) 0 rfl vs _ (by exact r1) Try.underlying55 rfl (i55w vs hvs) ?_)
    | (refine wpList_store_mid rfl 55 (.tmp 2) (.tmp 61) rfl w.heap.size 0 vs.toArray rfl rfl (by exact t1) (i55v vs hvs) hvo ?_))
  exact bodyPost_ret (v := .agg vs.toArray) (res_cell Try.results57 _ _ w.heap.size 0 rfl vs _ (World.rangeAt_setCells_same _ _ _ _ (by simpa using t2)) Try.underlying55 rfl (i55w vs hvs)) rfl ⟨rfl, W, HW.out, rfl⟩
end Go.Proofs.Qxb6614053a
