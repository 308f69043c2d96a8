import Derived.Test.Qxb6614053aPush
namespace Go.Proofs.Qxb6614053a
open Go.ChangeShapes Go.WideShapes Go.ChangeAt Go.RowKit
attribute [local go_sem] ta55

/-- what Push's new page leaves: W is the world ahead of the page's append -/
def Paged (w W : World) (B bq gp np cp : Nat) (pv : Value) (pgs : List Value) : Prop :=
  ∃ k1 w2 k2, w2.ownsRow B 81 1 (.slice (some ⟨gp, 0, none⟩) (np + 1) cp) (np + 1) (pgs ++ [.slice none 0 0]) ∧ World.grownBy ((w.drewN k1).alloc (.cells #[.slice none 0 0] 81)) w2 pv.ownBlock ∧
    (pv.ownBlock = some gp ∨ gp = w.heap.size + 1) ∧ gp < w2.heap.size ∧ W = (w2.setCell ⟨bq, 0, none⟩ (.slice (some ⟨gp, 0, none⟩) (np + 1) cp)).drewN k2
/-- what stands behind the new page -/
theorem Paged.have {w W : World} {B bq gp np cp : Nat} {pv : Value} {pgs : List Value} (h : Paged w W B bq gp np cp pv pgs) (lq : bq < w.heap.size) (hpq : pv.ownBlock ≠ some bq) {u0 u1 : Value}
    (c0 : w.cell? ⟨bq, 0, none⟩ = some u0) (c1 : w.cell? ⟨bq, 1, none⟩ = some u1) (f1 : w.frozen? ⟨bq, 1, none⟩ = false) (hl : pgs.length = np) :
    W.cell? ⟨bq, 0, none⟩ = some (.slice (some ⟨gp, 0, none⟩) (np + 1) cp) ∧ W.cell? ⟨bq, 1, none⟩ = some u1 ∧ W.frozen? ⟨bq, 1, none⟩ = false ∧ W.cell? ⟨gp, np, none⟩ = some (.slice none 0 0) ∧ W.frozen? ⟨gp, np, none⟩ = false ∧ bq < W.heap.size ∧ gp < W.heap.size ∧ bq ≠ gp ∧ w.heap.size < W.heap.size := by
  obtain ⟨k1, w2, k2, ho, hg, hat, hlt, rfl⟩ := h
  have hne : bq ≠ gp := by
    rintro rfl
    rcases hat with e | e
    · exact hpq e
    · omega
  have hb : Below w.heap.size w ((w.drewN k1).alloc (.cells #[.slice none 0 0] 81)) := (below_drewN (Below.refl _ _) k1).alloc (Nat.le_refl _) _
  have sz : ((w.drewN k1).alloc (.cells #[.slice none 0 0] 81)).heap.size = w.heap.size + 1 := by show (w.alloc _).heap.size = _; simp
  have far : ∀ x, w2.cell? ⟨bq, x, none⟩ = w.cell? ⟨bq, x, none⟩ ∧ w2.frozen? ⟨bq, x, none⟩ = w.frozen? ⟨bq, x, none⟩ := fun x =>
    ⟨(hg.cell_far ⟨bq, x, none⟩ (by rw [sz]; show bq < _; omega) (Ne.symm hpq)).trans (hb.cell (p := ⟨bq, x, none⟩) lq), (hg.frozen_far ⟨bq, x, none⟩ (by rw [sz]; show bq < _; omega) (Ne.symm hpq)).trans (hb.frozen (p := ⟨bq, x, none⟩) lq)⟩
  have hs2 : w.heap.size + 1 ≤ w2.heap.size := by have := hg.size; rw [sz] at this; exact this
  obtain ⟨_, ho2⟩ := ho
  rcases ho2 with ⟨_, h0⟩ | ⟨g, cap, cur, hv, hB, hgh, _, _, hsz, htk⟩
  · omega
  · injection hv with hv1 hv2 hv3
    injection hv1 with hv1
    injection hv1 with hv1 _ _
    subst hv1
    have hcur : cur[np]? = some (.slice none 0 0) := by
      have : (cur.toList.take ((np + 1) * 1))[np]? = (pgs ++ [Value.slice none 0 0])[np]? := by rw [htk]
      rw [List.getElem?_take] at this
      simpa [hl] using this
    have kg : w2.cell? ⟨gp, np, none⟩ = some (.slice none 0 0) := by rw [cell_of_row w2 gp np cur 81 (0, 0) hgh]; exact hcur
    refine ⟨?_, ?_, ?_, ?_, ?_, ?_, ?_, hne, ?_⟩
    · show (w2.setCell ⟨bq, 0, none⟩ _).cell? ⟨bq, 0, none⟩ = _
      exact World.cell?_setCell_same w2 ⟨bq, 0, none⟩ _ ((far 0).1.trans c0)
    · show (w2.setCell ⟨bq, 0, none⟩ _).cell? ⟨bq, 1, none⟩ = _
      rw [World.cell?_setCell_other w2 ⟨bq, 0, none⟩ ⟨bq, 1, none⟩ _ (by simp)]
      exact (far 1).1.trans c1
    · show (w2.setCell ⟨bq, 0, none⟩ _).frozen? ⟨bq, 1, none⟩ = _
      rw [World.frozen?_setCell]
      exact (far 1).2.trans f1
    · show (w2.setCell ⟨bq, 0, none⟩ _).cell? ⟨gp, np, none⟩ = _
      rw [World.cell?_setCell_far w2 ⟨bq, 0, none⟩ ⟨gp, np, none⟩ _ hne]
      exact kg
    · show (w2.setCell ⟨bq, 0, none⟩ _).frozen? ⟨gp, np, none⟩ = _
      rw [World.frozen?_setCell]
      exact frozen_of_row w2 gp np cur 81 hgh
    · show bq < (w2.setCell ⟨bq, 0, none⟩ _).heap.size
      simp; omega
    · show gp < (w2.setCell ⟨bq, 0, none⟩ _).heap.size
      simp; omega
    · show w.heap.size < (w2.setCell ⟨bq, 0, none⟩ _).heap.size
      simp; omega
theorem news81 (W : World) : ∀ (j : Nat) (u : Value), [Value.slice none 0 0][j]? = some u → (W.alloc (.cells #[.slice none 0 0] 81)).cell? ((⟨W.heap.size, 0, none⟩ : Addr).add j) = some u := by
  have hb : (W.alloc (.cells #[.slice none 0 0] 81)).heap[W.heap.size]? = some (.cells #[.slice none 0 0] 81) := heap_alloc_new W _
  have := World.news_of_block hb
  simpa using this
theorem after_page {w w2 : World} {k bq x : Nat} {o : Obj} {row : Option Nat} {u : Value} (hg : World.grownBy ((w.drewN k).alloc o) w2 row) (lq : bq < w.heap.size) (hpq : row ≠ some bq) (c0 : w.cell? ⟨bq, x, none⟩ = some u) (f0 : w.frozen? ⟨bq, x, none⟩ = false) :
    w2.cell? ⟨bq, x, none⟩ = some u ∧ w2.frozen? ⟨bq, x, none⟩ = false := by
  have hb : Below w.heap.size w ((w.drewN k).alloc o) := (below_drewN (Below.refl _ _) k).alloc (Nat.le_refl _) _
  have sz : ((w.drewN k).alloc o).heap.size = w.heap.size + 1 := by show (w.alloc _).heap.size = _; simp
  exact ⟨(hg.cell_far ⟨bq, x, none⟩ (by rw [sz]; show bq < _; omega) (Ne.symm hpq)).trans ((hb.cell (p := ⟨bq, x, none⟩) lq).trans c0), (hg.frozen_far ⟨bq, x, none⟩ (by rw [sz]; show bq < _; omega) (Ne.symm hpq)).trans ((hb.frozen (p := ⟨bq, x, none⟩) lq).trans f0)⟩

set_option linter.unusedSimpArgs false in
set_option maxHeartbeats 4000000 in
set_option maxRecDepth 100000 in
theorem push_new0 (B bq  n id : Nat) (Z : Nat → Int) (pgs : List Value) (w : World) (hn : n < 65536) (h1 : n = 0 * 1024)
    (hown : w.ownsRow B 81 1 (.slice none 0 0) 0 pgs) (c0 : w.cell? ⟨bq, 0, none⟩ = some (.slice none 0 0)) (c1 : w.cell? ⟨bq, 1, none⟩ = some (.int .i64 n)) (f0 : w.frozen? ⟨bq, 0, none⟩ = false) (f1 : w.frozen? ⟨bq, 1, none⟩ = false)
    (lq : bq < w.heap.size) (hpq : (.slice none 0 0 : Value).ownBlock ≠ some bq) (hB : B ≤ w.heap.size) :
    Calls Try.prog 55 #[.pointer (some ⟨bq, 0, none⟩), .iface 55 (.agg (ent Z id).toArray)] w fun e w' => e = .returned (.tuple #[]) ∧ ∃ gp cp W, Paged w W B bq gp 0 cp (.slice none 0 0) pgs ∧ Pushed W w' B bq gp 0 n 0 (.slice none 0 0) [] (ent Z id) := by
  obtain ⟨i0, hi, hz0, hz1, hz2⟩ := info_parts info55
  obtain ⟨i1, hj, hy0, hy1, hy2⟩ := info_parts info81
  have e2 : ((n : Int) == (0 : Int) * 1024) = true := by simp; omega
  have hnp2 : 0 ≤ 64 := by omega
  have hpl : pgs.length = 0 := by have := hown.1; omega
  have e1 : (((0 + 1 : Nat) : Int)) - 1 = (0 : Int) := by omega
  have e3 : ((0 : Int) + 1 ≤ (0 : Int)) = False := eq_false (by omega)
  clear h1
  go_enter Try.func55, Try.ntmps55
  go_wp2
  go_quiet (fail)
  go_wp2_with (at_builtin; refine wpList_append_lies _ rfl (.tmp 20) (.tmp 21) 44 rfl B 81 i1 _ 1 24 Try.underlying44 hj hy0 hy1 hy2 rfl (by decide) (.slice none 0 0) 0 pgs rfl (by exact hown.alloc _) ⟨w.heap.size, 0, none⟩ 1 1 [.slice none 0 0] rfl rfl (by exact news81 _) (by simp [Value.oneCell']) (by omega) (by unfold maxLen; omega) (by omega) (by simp; omega) (w.heap.size + 1) (by simp) ?_; intro gp cp w2 ho2 hg2 hat2 hlt2; obtain ⟨k0, kf0⟩ := after_page (k := _) hg2 lq hpq c0 f0)
  refine wp_gen (fun x => Paged w x B bq gp 0 cp (.slice none 0 0) pgs) ⟨nq, w2, 0, ho2, hg2, hat2, hlt2, rfl⟩ ?_
  rintro W hW
  have HW : Hid (Paged w W B bq gp 0 cp (.slice none 0 0) pgs) := hW
  have ⟨d0, d1, df1, cg, fg, lq2, lg, hbg, hsW⟩ := hW.have lq hpq c0 c1 f1 hpl
  have hB2 : B ≤ W.heap.size := by omega
  have hown2 : W.ownsRow B 55 35 (.slice none 0 0) 0 [] := ⟨rfl, .inl ⟨rfl, rfl⟩⟩
  clear hW c0 c1 f0 f1 hown hpq lq hB hg2 ho2 hat2 hlt2 k0 kf0 hsW w2
  have hBa : Below W.heap.size W (W.drew.alloc (.cells (ent Z id).toArray 55)) := ((Below.refl _ _).drew).alloc (Nat.le_refl _) _
  refine wp_region_held_drew (S := fun x => x.cell? ⟨bq, 0, none⟩ = some (.slice (some ⟨gp, 0, none⟩) 1 cp)) (by kernel_rfl) d0 (fun hS => ?_)
  refine wpAnyH_take (i := 0) (v := .pointer (some ⟨bq, 0, none⟩)) rfl (by kernel_rfl) (by kernel_rfl) (by kernel_rfl) (fun _ _ _ h => h) (Or.inl ⟨by rfl, fun x hx => by go_simp⟩) (by assumption) ?_
  simp only [List.getElem_toArray, List.getElem_cons_zero, List.getElem_cons_succ, Act.put, List.setIfInBounds_toArray, List.set_cons_zero, List.set_cons_succ]
  refine wpAnyH_take (i := 1) (v := .pointer (some ⟨bq, 0, none⟩)) rfl (by kernel_rfl) (by kernel_rfl) (by kernel_rfl) (fun _ _ _ h => h) (Or.inl ⟨by rfl, fun x hx => by go_simp⟩) (by assumption) ?_
  simp only [List.getElem_toArray, List.getElem_cons_zero, List.getElem_cons_succ, Act.put, List.setIfInBounds_toArray, List.set_cons_zero, List.set_cons_succ]
  refine wpAnyH_take (i := 2) (v := .pointer (some ⟨bq, 0, none⟩)) rfl (by kernel_rfl) (by kernel_rfl) (by kernel_rfl) (fun _ _ _ h => h) (Or.inl ⟨by rfl, fun x hx => by go_simp⟩) (by assumption) ?_
  simp only [List.getElem_toArray, List.getElem_cons_zero, List.getElem_cons_succ, Act.put, List.setIfInBounds_toArray, List.set_cons_zero, List.set_cons_succ]
  refine wpAnyH_take (i := 4) (v := .int .i64 0) rfl (by kernel_rfl) (by kernel_rfl) (by kernel_rfl) (fun _ _ _ h => h) (Or.inl ⟨by rfl, fun x hx => by go_simp⟩) (by assumption) ?_
  simp only [List.getElem_toArray, List.getElem_cons_zero, List.getElem_cons_succ, Act.put, List.setIfInBounds_toArray, List.set_cons_zero, List.set_cons_succ]
  refine wpAnyH_take (i := 5) (v := .pointer (some ⟨bq, 0, none⟩)) rfl (by kernel_rfl) (by kernel_rfl) (by kernel_rfl) (fun _ _ _ h => h) (Or.inl ⟨by rfl, fun x hx => by go_simp⟩) (by assumption) ?_
  simp only [List.getElem_toArray, List.getElem_cons_zero, List.getElem_cons_succ, Act.put, List.setIfInBounds_toArray, List.set_cons_zero, List.set_cons_succ]
  refine wpAnyH_take (i := 6) (v := .pointer (some ⟨bq, 0, none⟩)) rfl (by kernel_rfl) (by kernel_rfl) (by kernel_rfl) (fun _ _ _ h => h) (Or.inl ⟨by rfl, fun x hx => by go_simp⟩) (by assumption) ?_
  simp only [List.getElem_toArray, List.getElem_cons_zero, List.getElem_cons_succ, Act.put, List.setIfInBounds_toArray, List.set_cons_zero, List.set_cons_succ]
  refine wpAnyH_take (i := 7) (v := .pointer (some ⟨bq, 0, none⟩)) rfl (by kernel_rfl) (by kernel_rfl) (by kernel_rfl) (fun _ _ _ h => h) (Or.inl ⟨by rfl, fun x hx => by go_simp⟩) (by assumption) ?_
  simp only [List.getElem_toArray, List.getElem_cons_zero, List.getElem_cons_succ, Act.put, List.setIfInBounds_toArray, List.set_cons_zero, List.set_cons_succ]
  refine wpAnyH_take (i := 9) (v := .int .i64 0) rfl (by kernel_rfl) (by kernel_rfl) (by kernel_rfl) (fun _ _ _ h => h) (Or.inl ⟨by rfl, fun x hx => by go_simp⟩) (by assumption) ?_
  simp only [List.getElem_toArray, List.getElem_cons_zero, List.getElem_cons_succ, Act.put, List.setIfInBounds_toArray, List.set_cons_zero, List.set_cons_succ]
  refine wpAnyH_take (i := 12) (v := .iface 55 (.agg (ent Z id).toArray)) rfl (by kernel_rfl) (by kernel_rfl) (by kernel_rfl) (fun _ _ _ h => h) (Or.inl ⟨by rfl, fun x hx => by go_simp⟩) (by assumption) ?_
  simp only [List.getElem_toArray, List.getElem_cons_zero, List.getElem_cons_succ, Act.put, List.setIfInBounds_toArray, List.set_cons_zero, List.set_cons_succ]
  refine wpAnyH_take (i := 13) (v := .agg (ent Z id).toArray) rfl (by kernel_rfl) (by kernel_rfl) (by kernel_rfl) (fun _ _ _ h => h) (Or.inl ⟨by rfl, fun x hx => by go_simp⟩) (by assumption) ?_
  simp only [List.getElem_toArray, List.getElem_cons_zero, List.getElem_cons_succ, Act.put, List.setIfInBounds_toArray, List.set_cons_zero, List.set_cons_succ]
  refine wpAnyH_take (i := 3) (v := .slice (some ⟨gp, 0, none⟩) 1 cp) rfl (by kernel_rfl) (by kernel_rfl) (by kernel_rfl) (fun _ _ _ h => h) (Or.inl ⟨by rfl, fun x hx => by go_simp⟩) (by assumption) ?_
  simp only [List.getElem_toArray, List.getElem_cons_zero, List.getElem_cons_succ, Act.put, List.setIfInBounds_toArray, List.set_cons_zero, List.set_cons_succ]
  refine wpAnyH_take (i := 8) (v := .slice (some ⟨gp, 0, none⟩) 1 cp) rfl (by kernel_rfl) (by kernel_rfl) (by kernel_rfl) (fun _ _ _ h => h) (Or.inl ⟨by rfl, fun x hx => by go_simp⟩) (by assumption) ?_
  simp only [List.getElem_toArray, List.getElem_cons_zero, List.getElem_cons_succ, Act.put, List.setIfInBounds_toArray, List.set_cons_zero, List.set_cons_succ]
  refine wpAnyH_take (i := 10) (v := .pointer (some ⟨gp, 0, none⟩)) rfl (by kernel_rfl) (by kernel_rfl) (by kernel_rfl) (fun _ _ _ h => h) (Or.inl ⟨by rfl, fun x hx => by go_simp⟩) (by assumption) ?_
  simp only [List.getElem_toArray, List.getElem_cons_zero, List.getElem_cons_succ, Act.put, List.setIfInBounds_toArray, List.set_cons_zero, List.set_cons_succ]
  refine wpAnyH_ready (rs := [11, 14]) (by kernel_rfl) (by simp) (AllReadyH.cons rfl (fun K hK => ?_) (AllReadyH.cons rfl (fun K hK => ?_) AllReadyH.nil))
  · refine step_run rfl (v := .slice none 0 0) (w' := W.drew) (by go_simp) (hK.out _ _ (by assumption) (fun hS => ?_))
    simp only [List.getElem_toArray, List.getElem_cons_zero, List.getElem_cons_succ, Act.put, List.setIfInBounds_toArray, List.set_cons_zero, List.set_cons_succ]
    refine wpAnyH_ready (rs := [14]) (by kernel_rfl) (by simp) (AllReadyH.cons rfl (fun K hK => ?_) AllReadyH.nil)
    refine step_run rfl (v := .slice (some ⟨W.heap.size, 0, none⟩) 1 1) (w' := W.drew.alloc (.cells (ent Z id).toArray 55)) (bs_step Z id W.drew) (hK.out _ _ (by exact (hBa.cell (p := ⟨bq, 0, none⟩) lq2).trans d0) (fun hS => ?_))
    simp only [List.getElem_toArray, List.getElem_cons_zero, List.getElem_cons_succ, Act.put, List.setIfInBounds_toArray, List.set_cons_zero, List.set_cons_succ]
    refine wpAnyH_ready (rs := [15]) (by kernel_rfl) (by simp) (AllReadyH.cons rfl (fun K hK => ?_) AllReadyH.nil)
    refine step_append_lies _ rfl (.tmp 42) (.tmp 45) 81 rfl B 55 i0 _ 35 56 Try.underlying81 hi hz0 hz1 hz2 rfl (by decide) (.slice none 0 0) 0 [] rfl (by exact hown2.alloc _) ⟨W.heap.size, 0, none⟩ 1 1 (ent Z id) rfl rfl (news55 Z id W) (one55 Z id) (by omega) (by unfold maxLen; omega) (by omega) (by simp; omega) (W.heap.size + 1) (by simp) ?_
    intro g cap w1 ho1 hgr hat hlt
    obtain ⟨k0, k1, kg, kf, kf1⟩ := after_app hgr lq2 lg (by simp [Value.ownBlock]) (by simp [Value.ownBlock]) d0 d1 cg fg df1
    refine hK.out _ _ k0 (fun hS => ?_)
    simp only [List.getElem_toArray, List.getElem_cons_zero, List.getElem_cons_succ, Act.put, List.setIfInBounds_toArray, List.set_cons_zero, List.set_cons_succ]
    refine wpAnyH_take (i := 16) (v := .pointer (some ⟨gp, 0, none⟩)) rfl (by kernel_rfl) (by kernel_rfl) (by kernel_rfl) (fun _ _ _ h => h) (Or.inl ⟨by rfl, fun x hx => by go_simp⟩) (by assumption) ?_
    simp only [List.getElem_toArray, List.getElem_cons_zero, List.getElem_cons_succ, Act.put, List.setIfInBounds_toArray, List.set_cons_zero, List.set_cons_succ]
    refine wpAnyH_ready (rs := [17]) (by kernel_rfl) (by simp) (AllReadyH.cons rfl (fun K hK => ?_) AllReadyH.nil)
    go_simp
    refine hK.out _ _ (by rw [World.cell?_setCell_far w1 ⟨gp, 0, none⟩ ⟨bq, 0, none⟩ _ (Ne.symm hbg)]; exact k0) (fun hS => ?_)
    refine wpAnyH_done (by kernel_rfl) ?_ _
    have m1 : (w1.setCell ⟨gp, 0, none⟩ (.slice (some ⟨g, 0, none⟩) (0 + 1) cap)).cell? ⟨bq, 1, none⟩ = some (.int .i64 n) := by rw [World.cell?_setCell_far w1 ⟨gp, 0, none⟩ ⟨bq, 1, none⟩ _ (Ne.symm hbg)]; exact k1
    clear kg kf
    go_wp2
    go_end0
    exact ⟨rfl, gp, cp, W, HW.out, g, cap, w1, ho1, hgr, hat, hlt, rfl⟩
  · refine step_run rfl (v := .slice (some ⟨W.heap.size, 0, none⟩) 1 1) (w' := W.drew.alloc (.cells (ent Z id).toArray 55)) (bs_step Z id W.drew) (hK.out _ _ (by exact (hBa.cell (p := ⟨bq, 0, none⟩) lq2).trans d0) (fun hS => ?_))
    simp only [List.getElem_toArray, List.getElem_cons_zero, List.getElem_cons_succ, Act.put, List.setIfInBounds_toArray, List.set_cons_zero, List.set_cons_succ]
    refine wpAnyH_ready (rs := [11]) (by kernel_rfl) (by simp) (AllReadyH.cons rfl (fun K hK => ?_) AllReadyH.nil)
    refine step_run rfl (v := .slice none 0 0) (w' := W.drew.alloc (.cells (ent Z id).toArray 55)) (by go_simp) (hK.out _ _ (by assumption) (fun hS => ?_))
    simp only [List.getElem_toArray, List.getElem_cons_zero, List.getElem_cons_succ, Act.put, List.setIfInBounds_toArray, List.set_cons_zero, List.set_cons_succ]
    refine wpAnyH_ready (rs := [15]) (by kernel_rfl) (by simp) (AllReadyH.cons rfl (fun K hK => ?_) AllReadyH.nil)
    refine step_append_lies _ rfl (.tmp 42) (.tmp 45) 81 rfl B 55 i0 _ 35 56 Try.underlying81 hi hz0 hz1 hz2 rfl (by decide) (.slice none 0 0) 0 [] rfl (by exact hown2.alloc _) ⟨W.heap.size, 0, none⟩ 1 1 (ent Z id) rfl rfl (news55 Z id W) (one55 Z id) (by omega) (by unfold maxLen; omega) (by omega) (by simp; omega) (W.heap.size + 1) (by simp) ?_
    intro g cap w1 ho1 hgr hat hlt
    obtain ⟨k0, k1, kg, kf, kf1⟩ := after_app hgr lq2 lg (by simp [Value.ownBlock]) (by simp [Value.ownBlock]) d0 d1 cg fg df1
    refine hK.out _ _ k0 (fun hS => ?_)
    simp only [List.getElem_toArray, List.getElem_cons_zero, List.getElem_cons_succ, Act.put, List.setIfInBounds_toArray, List.set_cons_zero, List.set_cons_succ]
    refine wpAnyH_take (i := 16) (v := .pointer (some ⟨gp, 0, none⟩)) rfl (by kernel_rfl) (by kernel_rfl) (by kernel_rfl) (fun _ _ _ h => h) (Or.inl ⟨by rfl, fun x hx => by go_simp⟩) (by assumption) ?_
    simp only [List.getElem_toArray, List.getElem_cons_zero, List.getElem_cons_succ, Act.put, List.setIfInBounds_toArray, List.set_cons_zero, List.set_cons_succ]
    refine wpAnyH_ready (rs := [17]) (by kernel_rfl) (by simp) (AllReadyH.cons rfl (fun K hK => ?_) AllReadyH.nil)
    go_simp
    refine hK.out _ _ (by rw [World.cell?_setCell_far w1 ⟨gp, 0, none⟩ ⟨bq, 0, none⟩ _ (Ne.symm hbg)]; exact k0) (fun hS => ?_)
    refine wpAnyH_done (by kernel_rfl) ?_ _
    have m1 : (w1.setCell ⟨gp, 0, none⟩ (.slice (some ⟨g, 0, none⟩) (0 + 1) cap)).cell? ⟨bq, 1, none⟩ = some (.int .i64 n) := by rw [World.cell?_setCell_far w1 ⟨gp, 0, none⟩ ⟨bq, 1, none⟩ _ (Ne.symm hbg)]; exact k1
    clear kg kf
    go_wp2
    go_end0
    exact ⟨rfl, gp, cp, W, HW.out, g, cap, w1, ho1, hgr, hat, hlt, rfl⟩


set_option linter.unusedSimpArgs false in
set_option maxHeartbeats 4000000 in
set_option maxRecDepth 100000 in
theorem push_new1 (B bq g0 cp0 np n id : Nat) (Z : Nat → Int) (pgs : List Value) (w : World) (hn : n < 65536) (h1 : n = np * 1024)
    (hown : w.ownsRow B 81 1 (.slice (some ⟨g0, 0, none⟩) np cp0) np pgs) (c0 : w.cell? ⟨bq, 0, none⟩ = some (.slice (some ⟨g0, 0, none⟩) np cp0)) (c1 : w.cell? ⟨bq, 1, none⟩ = some (.int .i64 n)) (f0 : w.frozen? ⟨bq, 0, none⟩ = false) (f1 : w.frozen? ⟨bq, 1, none⟩ = false)
    (lq : bq < w.heap.size) (hpq : (.slice (some ⟨g0, 0, none⟩) np cp0 : Value).ownBlock ≠ some bq) (hB : B ≤ w.heap.size) :
    Calls Try.prog 55 #[.pointer (some ⟨bq, 0, none⟩), .iface 55 (.agg (ent Z id).toArray)] w fun e w' => e = .returned (.tuple #[]) ∧ ∃ gp cp W, Paged w W B bq gp np cp (.slice (some ⟨g0, 0, none⟩) np cp0) pgs ∧ Pushed W w' B bq gp np n 0 (.slice none 0 0) [] (ent Z id) := by
  obtain ⟨i0, hi, hz0, hz1, hz2⟩ := info_parts info55
  obtain ⟨i1, hj, hy0, hy1, hy2⟩ := info_parts info81
  have e2 : ((n : Int) == (np : Int) * 1024) = true := by simp; omega
  have hnp2 : np ≤ 64 := by omega
  have hpl : pgs.length = np := by have := hown.1; omega
  have e1 : (((np + 1 : Nat) : Int)) - 1 = (np : Int) := by omega
  have e3 : ((np : Int) + 1 ≤ (np : Int)) = False := eq_false (by omega)
  clear h1
  go_enter Try.func55, Try.ntmps55
  go_wp2
  go_quiet (fail)
  go_wp2_with (at_builtin; refine wpList_append_lies _ rfl (.tmp 20) (.tmp 21) 44 rfl B 81 i1 _ 1 24 Try.underlying44 hj hy0 hy1 hy2 rfl (by decide) (.slice (some ⟨g0, 0, none⟩) np cp0) np pgs rfl (by exact hown.alloc _) ⟨w.heap.size, 0, none⟩ 1 1 [.slice none 0 0] rfl rfl (by exact news81 _) (by simp [Value.oneCell']) (by omega) (by unfold maxLen; omega) (by omega) (by simp; omega) (w.heap.size + 1) (by simp) ?_; intro gp cp w2 ho2 hg2 hat2 hlt2; obtain ⟨k0, kf0⟩ := after_page (k := _) hg2 lq hpq c0 f0)
  refine wp_gen (fun x => Paged w x B bq gp np cp (.slice (some ⟨g0, 0, none⟩) np cp0) pgs) ⟨nq, w2, 0, ho2, hg2, hat2, hlt2, rfl⟩ ?_
  rintro W hW
  have HW : Hid (Paged w W B bq gp np cp (.slice (some ⟨g0, 0, none⟩) np cp0) pgs) := hW
  have ⟨d0, d1, df1, cg, fg, lq2, lg, hbg, hsW⟩ := hW.have lq hpq c0 c1 f1 hpl
  have hB2 : B ≤ W.heap.size := by omega
  have hown2 : W.ownsRow B 55 35 (.slice none 0 0) 0 [] := ⟨rfl, .inl ⟨rfl, rfl⟩⟩
  clear hW c0 c1 f0 f1 hown hpq lq hB hg2 ho2 hat2 hlt2 k0 kf0 hsW w2
  have hBa : Below W.heap.size W (W.drew.alloc (.cells (ent Z id).toArray 55)) := ((Below.refl _ _).drew).alloc (Nat.le_refl _) _
  refine wp_region_held_drew (S := fun x => x.cell? ⟨bq, 0, none⟩ = some (.slice (some ⟨gp, 0, none⟩) (np + 1) cp)) (by kernel_rfl) d0 (fun hS => ?_)
  refine wpAnyH_take (i := 0) (v := .pointer (some ⟨bq, 0, none⟩)) rfl (by kernel_rfl) (by kernel_rfl) (by kernel_rfl) (fun _ _ _ h => h) (Or.inl ⟨by rfl, fun x hx => by go_simp⟩) (by assumption) ?_
  simp only [List.getElem_toArray, List.getElem_cons_zero, List.getElem_cons_succ, Act.put, List.setIfInBounds_toArray, List.set_cons_zero, List.set_cons_succ]
  refine wpAnyH_take (i := 1) (v := .pointer (some ⟨bq, 0, none⟩)) rfl (by kernel_rfl) (by kernel_rfl) (by kernel_rfl) (fun _ _ _ h => h) (Or.inl ⟨by rfl, fun x hx => by go_simp⟩) (by assumption) ?_
  simp only [List.getElem_toArray, List.getElem_cons_zero, List.getElem_cons_succ, Act.put, List.setIfInBounds_toArray, List.set_cons_zero, List.set_cons_succ]
  refine wpAnyH_take (i := 2) (v := .pointer (some ⟨bq, 0, none⟩)) rfl (by kernel_rfl) (by kernel_rfl) (by kernel_rfl) (fun _ _ _ h => h) (Or.inl ⟨by rfl, fun x hx => by go_simp⟩) (by assumption) ?_
  simp only [List.getElem_toArray, List.getElem_cons_zero, List.getElem_cons_succ, Act.put, List.setIfInBounds_toArray, List.set_cons_zero, List.set_cons_succ]
  refine wpAnyH_take (i := 4) (v := .int .i64 np) rfl (by kernel_rfl) (by kernel_rfl) (by kernel_rfl) (fun _ _ _ h => h) (Or.inl ⟨by rfl, fun x hx => by go_simp⟩) (by assumption) ?_
  simp only [List.getElem_toArray, List.getElem_cons_zero, List.getElem_cons_succ, Act.put, List.setIfInBounds_toArray, List.set_cons_zero, List.set_cons_succ]
  refine wpAnyH_take (i := 5) (v := .pointer (some ⟨bq, 0, none⟩)) rfl (by kernel_rfl) (by kernel_rfl) (by kernel_rfl) (fun _ _ _ h => h) (Or.inl ⟨by rfl, fun x hx => by go_simp⟩) (by assumption) ?_
  simp only [List.getElem_toArray, List.getElem_cons_zero, List.getElem_cons_succ, Act.put, List.setIfInBounds_toArray, List.set_cons_zero, List.set_cons_succ]
  refine wpAnyH_take (i := 6) (v := .pointer (some ⟨bq, 0, none⟩)) rfl (by kernel_rfl) (by kernel_rfl) (by kernel_rfl) (fun _ _ _ h => h) (Or.inl ⟨by rfl, fun x hx => by go_simp⟩) (by assumption) ?_
  simp only [List.getElem_toArray, List.getElem_cons_zero, List.getElem_cons_succ, Act.put, List.setIfInBounds_toArray, List.set_cons_zero, List.set_cons_succ]
  refine wpAnyH_take (i := 7) (v := .pointer (some ⟨bq, 0, none⟩)) rfl (by kernel_rfl) (by kernel_rfl) (by kernel_rfl) (fun _ _ _ h => h) (Or.inl ⟨by rfl, fun x hx => by go_simp⟩) (by assumption) ?_
  simp only [List.getElem_toArray, List.getElem_cons_zero, List.getElem_cons_succ, Act.put, List.setIfInBounds_toArray, List.set_cons_zero, List.set_cons_succ]
  refine wpAnyH_take (i := 9) (v := .int .i64 np) rfl (by kernel_rfl) (by kernel_rfl) (by kernel_rfl) (fun _ _ _ h => h) (Or.inl ⟨by rfl, fun x hx => by go_simp⟩) (by assumption) ?_
  simp only [List.getElem_toArray, List.getElem_cons_zero, List.getElem_cons_succ, Act.put, List.setIfInBounds_toArray, List.set_cons_zero, List.set_cons_succ]
  refine wpAnyH_take (i := 12) (v := .iface 55 (.agg (ent Z id).toArray)) rfl (by kernel_rfl) (by kernel_rfl) (by kernel_rfl) (fun _ _ _ h => h) (Or.inl ⟨by rfl, fun x hx => by go_simp⟩) (by assumption) ?_
  simp only [List.getElem_toArray, List.getElem_cons_zero, List.getElem_cons_succ, Act.put, List.setIfInBounds_toArray, List.set_cons_zero, List.set_cons_succ]
  refine wpAnyH_take (i := 13) (v := .agg (ent Z id).toArray) rfl (by kernel_rfl) (by kernel_rfl) (by kernel_rfl) (fun _ _ _ h => h) (Or.inl ⟨by rfl, fun x hx => by go_simp⟩) (by assumption) ?_
  simp only [List.getElem_toArray, List.getElem_cons_zero, List.getElem_cons_succ, Act.put, List.setIfInBounds_toArray, List.set_cons_zero, List.set_cons_succ]
  refine wpAnyH_take (i := 3) (v := .slice (some ⟨gp, 0, none⟩) (np + 1) cp) rfl (by kernel_rfl) (by kernel_rfl) (by kernel_rfl) (fun _ _ _ h => h) (Or.inl ⟨by rfl, fun x hx => by go_simp⟩) (by assumption) ?_
  simp only [List.getElem_toArray, List.getElem_cons_zero, List.getElem_cons_succ, Act.put, List.setIfInBounds_toArray, List.set_cons_zero, List.set_cons_succ]
  refine wpAnyH_take (i := 8) (v := .slice (some ⟨gp, 0, none⟩) (np + 1) cp) rfl (by kernel_rfl) (by kernel_rfl) (by kernel_rfl) (fun _ _ _ h => h) (Or.inl ⟨by rfl, fun x hx => by go_simp⟩) (by assumption) ?_
  simp only [List.getElem_toArray, List.getElem_cons_zero, List.getElem_cons_succ, Act.put, List.setIfInBounds_toArray, List.set_cons_zero, List.set_cons_succ]
  refine wpAnyH_take (i := 10) (v := .pointer (some ⟨gp, np, none⟩)) rfl (by kernel_rfl) (by kernel_rfl) (by kernel_rfl) (fun _ _ _ h => h) (Or.inl ⟨by rfl, fun x hx => by go_simp⟩) (by assumption) ?_
  simp only [List.getElem_toArray, List.getElem_cons_zero, List.getElem_cons_succ, Act.put, List.setIfInBounds_toArray, List.set_cons_zero, List.set_cons_succ]
  refine wpAnyH_ready (rs := [11, 14]) (by kernel_rfl) (by simp) (AllReadyH.cons rfl (fun K hK => ?_) (AllReadyH.cons rfl (fun K hK => ?_) AllReadyH.nil))
  · refine step_run rfl (v := .slice none 0 0) (w' := W.drew) (by go_simp) (hK.out _ _ (by assumption) (fun hS => ?_))
    simp only [List.getElem_toArray, List.getElem_cons_zero, List.getElem_cons_succ, Act.put, List.setIfInBounds_toArray, List.set_cons_zero, List.set_cons_succ]
    refine wpAnyH_ready (rs := [14]) (by kernel_rfl) (by simp) (AllReadyH.cons rfl (fun K hK => ?_) AllReadyH.nil)
    refine step_run rfl (v := .slice (some ⟨W.heap.size, 0, none⟩) 1 1) (w' := W.drew.alloc (.cells (ent Z id).toArray 55)) (bs_step Z id W.drew) (hK.out _ _ (by exact (hBa.cell (p := ⟨bq, 0, none⟩) lq2).trans d0) (fun hS => ?_))
    simp only [List.getElem_toArray, List.getElem_cons_zero, List.getElem_cons_succ, Act.put, List.setIfInBounds_toArray, List.set_cons_zero, List.set_cons_succ]
    refine wpAnyH_ready (rs := [15]) (by kernel_rfl) (by simp) (AllReadyH.cons rfl (fun K hK => ?_) AllReadyH.nil)
    refine step_append_lies _ rfl (.tmp 42) (.tmp 45) 81 rfl B 55 i0 _ 35 56 Try.underlying81 hi hz0 hz1 hz2 rfl (by decide) (.slice none 0 0) 0 [] rfl (by exact hown2.alloc _) ⟨W.heap.size, 0, none⟩ 1 1 (ent Z id) rfl rfl (news55 Z id W) (one55 Z id) (by omega) (by unfold maxLen; omega) (by omega) (by simp; omega) (W.heap.size + 1) (by simp) ?_
    intro g cap w1 ho1 hgr hat hlt
    obtain ⟨k0, k1, kg, kf, kf1⟩ := after_app hgr lq2 lg (by simp [Value.ownBlock]) (by simp [Value.ownBlock]) d0 d1 cg fg df1
    refine hK.out _ _ k0 (fun hS => ?_)
    simp only [List.getElem_toArray, List.getElem_cons_zero, List.getElem_cons_succ, Act.put, List.setIfInBounds_toArray, List.set_cons_zero, List.set_cons_succ]
    refine wpAnyH_take (i := 16) (v := .pointer (some ⟨gp, np, none⟩)) rfl (by kernel_rfl) (by kernel_rfl) (by kernel_rfl) (fun _ _ _ h => h) (Or.inl ⟨by rfl, fun x hx => by go_simp⟩) (by assumption) ?_
    simp only [List.getElem_toArray, List.getElem_cons_zero, List.getElem_cons_succ, Act.put, List.setIfInBounds_toArray, List.set_cons_zero, List.set_cons_succ]
    refine wpAnyH_ready (rs := [17]) (by kernel_rfl) (by simp) (AllReadyH.cons rfl (fun K hK => ?_) AllReadyH.nil)
    go_simp
    refine hK.out _ _ (by rw [World.cell?_setCell_far w1 ⟨gp, np, none⟩ ⟨bq, 0, none⟩ _ (Ne.symm hbg)]; exact k0) (fun hS => ?_)
    refine wpAnyH_done (by kernel_rfl) ?_ _
    have m1 : (w1.setCell ⟨gp, np, none⟩ (.slice (some ⟨g, 0, none⟩) (0 + 1) cap)).cell? ⟨bq, 1, none⟩ = some (.int .i64 n) := by rw [World.cell?_setCell_far w1 ⟨gp, np, none⟩ ⟨bq, 1, none⟩ _ (Ne.symm hbg)]; exact k1
    clear kg kf
    go_wp2
    go_end0
    exact ⟨rfl, gp, cp, W, HW.out, g, cap, w1, ho1, hgr, hat, hlt, rfl⟩
  · refine step_run rfl (v := .slice (some ⟨W.heap.size, 0, none⟩) 1 1) (w' := W.drew.alloc (.cells (ent Z id).toArray 55)) (bs_step Z id W.drew) (hK.out _ _ (by exact (hBa.cell (p := ⟨bq, 0, none⟩) lq2).trans d0) (fun hS => ?_))
    simp only [List.getElem_toArray, List.getElem_cons_zero, List.getElem_cons_succ, Act.put, List.setIfInBounds_toArray, List.set_cons_zero, List.set_cons_succ]
    refine wpAnyH_ready (rs := [11]) (by kernel_rfl) (by simp) (AllReadyH.cons rfl (fun K hK => ?_) AllReadyH.nil)
    refine step_run rfl (v := .slice none 0 0) (w' := W.drew.alloc (.cells (ent Z id).toArray 55)) (by go_simp) (hK.out _ _ (by assumption) (fun hS => ?_))
    simp only [List.getElem_toArray, List.getElem_cons_zero, List.getElem_cons_succ, Act.put, List.setIfInBounds_toArray, List.set_cons_zero, List.set_cons_succ]
    refine wpAnyH_ready (rs := [15]) (by kernel_rfl) (by simp) (AllReadyH.cons rfl (fun K hK => ?_) AllReadyH.nil)
    refine step_append_lies _ rfl (.tmp 42) (.tmp 45) 81 rfl B 55 i0 _ 35 56 Try.underlying81 hi hz0 hz1 hz2 rfl (by decide) (.slice none 0 0) 0 [] rfl (by exact hown2.alloc _) ⟨W.heap.size, 0, none⟩ 1 1 (ent Z id) rfl rfl (news55 Z id W) (one55 Z id) (by omega) (by unfold maxLen; omega) (by omega) (by simp; omega) (W.heap.size + 1) (by simp) ?_
    intro g cap w1 ho1 hgr hat hlt
    obtain ⟨k0, k1, kg, kf, kf1⟩ := after_app hgr lq2 lg (by simp [Value.ownBlock]) (by simp [Value.ownBlock]) d0 d1 cg fg df1
    refine hK.out _ _ k0 (fun hS => ?_)
    simp only [List.getElem_toArray, List.getElem_cons_zero, List.getElem_cons_succ, Act.put, List.setIfInBounds_toArray, List.set_cons_zero, List.set_cons_succ]
    refine wpAnyH_take (i := 16) (v := .pointer (some ⟨gp, np, none⟩)) rfl (by kernel_rfl) (by kernel_rfl) (by kernel_rfl) (fun _ _ _ h => h) (Or.inl ⟨by rfl, fun x hx => by go_simp⟩) (by assumption) ?_
    simp only [List.getElem_toArray, List.getElem_cons_zero, List.getElem_cons_succ, Act.put, List.setIfInBounds_toArray, List.set_cons_zero, List.set_cons_succ]
    refine wpAnyH_ready (rs := [17]) (by kernel_rfl) (by simp) (AllReadyH.cons rfl (fun K hK => ?_) AllReadyH.nil)
    go_simp
    refine hK.out _ _ (by rw [World.cell?_setCell_far w1 ⟨gp, np, none⟩ ⟨bq, 0, none⟩ _ (Ne.symm hbg)]; exact k0) (fun hS => ?_)
    refine wpAnyH_done (by kernel_rfl) ?_ _
    have m1 : (w1.setCell ⟨gp, np, none⟩ (.slice (some ⟨g, 0, none⟩) (0 + 1) cap)).cell? ⟨bq, 1, none⟩ = some (.int .i64 n) := by rw [World.cell?_setCell_far w1 ⟨gp, np, none⟩ ⟨bq, 1, none⟩ _ (Ne.symm hbg)]; exact k1
    clear kg kf
    go_wp2
    go_end0
    exact ⟨rfl, gp, cp, W, HW.out, g, cap, w1, ho1, hgr, hat, hlt, rfl⟩

end Go.Proofs.Qxb6614053a
