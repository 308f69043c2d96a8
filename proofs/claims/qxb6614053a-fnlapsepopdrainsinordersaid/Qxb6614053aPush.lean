import Derived.Test.Qxb6614053aPushA
namespace Go.Proofs.Qxb6614053a
open Go.ChangeShapes Go.WideShapes Go.ChangeAt Go.RowKit
attribute [local go_sem] ta55

theorem bs_step (Z : Nat → Int) (i : Nat) (w : World) {a : Act} {o : Oper} (ho : o.op = .buildSlice 81 1 #[(0, .tmp 44)] := by rfl) (hx : a.eval (.tmp 44) = .agg (ent Z i).toArray := by rfl) :
    (execOp a.eval o).run Try.prog w = .ok (.value (.slice (some ⟨w.heap.size, 0, none⟩) 1 1)) (w.alloc (.cells (ent Z i).toArray 55)) := by
  have h := bs55 Z i w
  simp only [execOp, ho]
  simp [hx, h]
theorem news55 (Z : Nat → Int) (id : Nat) (W : World) : ∀ (j : Nat) (u : Value), (ent Z id)[j]? = some u → (W.drew.alloc (.cells (ent Z id).toArray 55)).cell? ((⟨W.heap.size, 0, none⟩ : Addr).add j) = some u := by
  have hb : (W.drew.alloc (.cells (ent Z id).toArray 55)).heap[W.heap.size]? = some (.cells (ent Z id).toArray 55) := heap_alloc_new W.drew _
  have := World.news_of_block hb
  simpa using this
theorem one55 (Z : Nat → Int) (id : Nat) : ∀ u ∈ ent Z id, u.oneCell' = true := by
  intro u hu
  have := Array.all_eq_true_iff_forall_mem.1 (ent_one Z id) u (by simpa using hu)
  exact this
theorem after_app {W w1 : World} {o : Obj} {row : Option Nat} {bq gp q : Nat} {u0 u1 ug : Value} (hg : World.grownBy (W.drew.alloc o) w1 row) (lq : bq < W.heap.size) (lg : gp < W.heap.size) (hvq : row ≠ some bq) (hvg : row ≠ some gp)
    (c0 : W.cell? ⟨bq, 0, none⟩ = some u0) (c1 : W.cell? ⟨bq, 1, none⟩ = some u1) (cg : W.cell? ⟨gp, q, none⟩ = some ug) (fg : W.frozen? ⟨gp, q, none⟩ = false) (f1 : W.frozen? ⟨bq, 1, none⟩ = false) :
    w1.cell? ⟨bq, 0, none⟩ = some u0 ∧ w1.cell? ⟨bq, 1, none⟩ = some u1 ∧ w1.cell? ⟨gp, q, none⟩ = some ug ∧ w1.frozen? ⟨gp, q, none⟩ = false ∧ w1.frozen? ⟨bq, 1, none⟩ = false := by
  have hb : Below W.heap.size W (W.drew.alloc o) := ((Below.refl _ _).drew).alloc (Nat.le_refl _) _
  have sz : (W.drew.alloc o).heap.size = W.heap.size + 1 := by show (W.alloc o).heap.size = _; simp
  have far : ∀ b x, b < W.heap.size → row ≠ some b → w1.cell? ⟨b, x, none⟩ = W.cell? ⟨b, x, none⟩ ∧ w1.frozen? ⟨b, x, none⟩ = W.frozen? ⟨b, x, none⟩ := fun b x h1 h2 =>
    ⟨(hg.cell_far ⟨b, x, none⟩ (by rw [sz]; show b < _; omega) (Ne.symm h2)).trans (hb.cell (p := ⟨b, x, none⟩) h1), (hg.frozen_far ⟨b, x, none⟩ (by rw [sz]; show b < _; omega) (Ne.symm h2)).trans (hb.frozen (p := ⟨b, x, none⟩) h1)⟩
  exact ⟨(far bq 0 lq hvq).1.trans c0, (far bq 1 lq hvq).1.trans c1, (far gp q lg hvg).1.trans cg, (far gp q lg hvg).2.trans fg, (far bq 1 lq hvq).2.trans f1⟩

/-- what Push leaves behind the page's append: W is the world ahead of it -/
def Pushed (W w' : World) (B bq gp q n pl : Nat) (pgv : Value) (xs e : List Value) : Prop :=
  ∃ g cap w1, w1.ownsRow B 55 35 (.slice (some ⟨g, 0, none⟩) (pl + 1) cap) (pl + 1) (xs ++ e) ∧ World.grownBy (W.drew.alloc (.cells e.toArray 55)) w1 pgv.ownBlock ∧ (pgv.ownBlock = some g ∨ g = W.heap.size + 1) ∧ g < w1.heap.size ∧
    w' = (w1.setCell ⟨gp, q, none⟩ (.slice (some ⟨g, 0, none⟩) (pl + 1) cap)).setCell ⟨bq, 1, none⟩ (.int .i64 ((n : Int) + 1))

set_option linter.unusedSimpArgs false in
set_option maxHeartbeats 4000000 in
set_option maxRecDepth 100000 in
theorem push_old (B bq gp np cp q n pl id : Nat) (Z : Nat → Int) (pgv : Value) (xs : List Value) (w : World) (hn : n < 65536) (h1 : n < np * 1024) (hnp : np = q + 1) (hnp2 : np ≤ 65) (hpl : pl ≤ 1024)
    (c0 : w.cell? ⟨bq, 0, none⟩ = some (.slice (some ⟨gp, 0, none⟩) np cp)) (c1 : w.cell? ⟨bq, 1, none⟩ = some (.int .i64 n)) (f1 : w.frozen? ⟨bq, 1, none⟩ = false)
    (cg : w.cell? ⟨gp, q, none⟩ = some pgv) (fg : w.frozen? ⟨gp, q, none⟩ = false) (hown : w.ownsRow B 55 35 pgv pl xs) (lq : bq < w.heap.size) (lg : gp < w.heap.size) (hbg : bq ≠ gp) (hvq : pgv.ownBlock ≠ some bq) (hvg : pgv.ownBlock ≠ some gp) (hB : B ≤ w.heap.size) :
    Calls Try.prog 55 #[.pointer (some ⟨bq, 0, none⟩), .iface 55 (.agg (ent Z id).toArray)] w fun e w' => e = .returned (.tuple #[]) ∧ ∃ W, (∃ k, W = w.drewN k) ∧ Pushed W w' B bq gp q n pl pgv xs (ent Z id) := by
  obtain ⟨i0, hi, hz0, hz1, hz2⟩ := info_parts info55
  have e1 : (np : Int) - 1 = (q : Int) := by omega
  have e2 : ((n : Int) == (np : Int) * 1024) = false := by simp; omega
  have e3 : (q : Int) < (np : Int) := by omega
  have H1 : Hid (np = q + 1) := hnp
  clear hnp h1
  go_enter Try.func55, Try.ntmps55
  go_wp2
  go_quiet (fail)
  go_wp2
  refine wp_gen (fun x => ∃ k, x = w.drewN k) ⟨_, rfl⟩ ?_
  rintro W hW
  have hBd : Below w.heap.size w W := by obtain ⟨k, rfl⟩ := hW; exact below_drewN (Below.refl _ _) k
  have hsz : W.heap.size = w.heap.size := by obtain ⟨k, rfl⟩ := hW; rfl
  have hownW : W.ownsRow B 55 35 pgv pl xs := by obtain ⟨k, rfl⟩ := hW; exact hown
  have HW : Hid (∃ k, W = w.drewN k) := hW
  replace c0 := (hBd.cell (p := ⟨bq, 0, none⟩) lq).trans c0
  replace c1 := (hBd.cell (p := ⟨bq, 1, none⟩) lq).trans c1
  replace cg := (hBd.cell (p := ⟨gp, q, none⟩) lg).trans cg
  replace f1 := (hBd.frozen (p := ⟨bq, 1, none⟩) lq).trans f1
  replace fg := (hBd.frozen (p := ⟨gp, q, none⟩) lg).trans fg
  rw [← hsz] at lq lg hB
  replace hown := hownW
  clear hW hownW hBd hsz
  have hBa : Below W.heap.size W (W.drew.alloc (.cells (ent Z id).toArray 55)) := ((Below.refl _ _).drew).alloc (Nat.le_refl _) _
  refine wp_region_held_drew (S := fun x => x.cell? ⟨bq, 0, none⟩ = some (.slice (some ⟨gp, 0, none⟩) np cp)) (by kernel_rfl) c0 (fun hS => ?_)
  refine wpAnyH_take (i := 0) (v := .pointer (some ⟨bq, 0, none⟩)) rfl (by kernel_rfl) (by kernel_rfl) (by kernel_rfl) (fun _ _ _ h => h) (Or.inl ⟨by rfl, fun x hx => by go_simp⟩) (by assumption) ?_
  simp only [List.getElem_toArray, List.getElem_cons_zero, List.getElem_cons_succ, Act.put, List.setIfInBounds_toArray, List.set_cons_zero, List.set_cons_succ]
  refine wpAnyH_take (i := 1) (v := .pointer (some ⟨bq, 0, none⟩)) rfl (by kernel_rfl) (by kernel_rfl) (by kernel_rfl) (fun _ _ _ h => h) (Or.inl ⟨by rfl, fun x hx => by go_simp⟩) (by assumption) ?_
  simp only [List.getElem_toArray, List.getElem_cons_zero, List.getElem_cons_succ, Act.put, List.setIfInBounds_toArray, List.set_cons_zero, List.set_cons_succ]
  refine wpAnyH_take (i := 2) (v := .pointer (some ⟨bq, 0, none⟩)) rfl (by kernel_rfl) (by kernel_rfl) (by kernel_rfl) (fun _ _ _ h => h) (Or.inl ⟨by rfl, fun x hx => by go_simp⟩) (by assumption) ?_
  simp only [List.getElem_toArray, List.getElem_cons_zero, List.getElem_cons_succ, Act.put, List.setIfInBounds_toArray, List.set_cons_zero, List.set_cons_succ]
  refine wpAnyH_take (i := 4) (v := .int .i64 q) rfl (by kernel_rfl) (by kernel_rfl) (by kernel_rfl) (fun _ _ _ h => h) (Or.inl ⟨by rfl, fun x hx => by go_simp⟩) (by assumption) ?_
  simp only [List.getElem_toArray, List.getElem_cons_zero, List.getElem_cons_succ, Act.put, List.setIfInBounds_toArray, List.set_cons_zero, List.set_cons_succ]
  refine wpAnyH_take (i := 5) (v := .pointer (some ⟨bq, 0, none⟩)) rfl (by kernel_rfl) (by kernel_rfl) (by kernel_rfl) (fun _ _ _ h => h) (Or.inl ⟨by rfl, fun x hx => by go_simp⟩) (by assumption) ?_
  simp only [List.getElem_toArray, List.getElem_cons_zero, List.getElem_cons_succ, Act.put, List.setIfInBounds_toArray, List.set_cons_zero, List.set_cons_succ]
  refine wpAnyH_take (i := 6) (v := .pointer (some ⟨bq, 0, none⟩)) rfl (by kernel_rfl) (by kernel_rfl) (by kernel_rfl) (fun _ _ _ h => h) (Or.inl ⟨by rfl, fun x hx => by go_simp⟩) (by assumption) ?_
  simp only [List.getElem_toArray, List.getElem_cons_zero, List.getElem_cons_succ, Act.put, List.setIfInBounds_toArray, List.set_cons_zero, List.set_cons_succ]
  refine wpAnyH_take (i := 7) (v := .pointer (some ⟨bq, 0, none⟩)) rfl (by kernel_rfl) (by kernel_rfl) (by kernel_rfl) (fun _ _ _ h => h) (Or.inl ⟨by rfl, fun x hx => by go_simp⟩) (by assumption) ?_
  simp only [List.getElem_toArray, List.getElem_cons_zero, List.getElem_cons_succ, Act.put, List.setIfInBounds_toArray, List.set_cons_zero, List.set_cons_succ]
  refine wpAnyH_take (i := 9) (v := .int .i64 q) rfl (by kernel_rfl) (by kernel_rfl) (by kernel_rfl) (fun _ _ _ h => h) (Or.inl ⟨by rfl, fun x hx => by go_simp⟩) (by assumption) ?_
  simp only [List.getElem_toArray, List.getElem_cons_zero, List.getElem_cons_succ, Act.put, List.setIfInBounds_toArray, List.set_cons_zero, List.set_cons_succ]
  refine wpAnyH_take (i := 12) (v := .iface 55 (.agg (ent Z id).toArray)) rfl (by kernel_rfl) (by kernel_rfl) (by kernel_rfl) (fun _ _ _ h => h) (Or.inl ⟨by rfl, fun x hx => by go_simp⟩) (by assumption) ?_
  simp only [List.getElem_toArray, List.getElem_cons_zero, List.getElem_cons_succ, Act.put, List.setIfInBounds_toArray, List.set_cons_zero, List.set_cons_succ]
  refine wpAnyH_take (i := 13) (v := .agg (ent Z id).toArray) rfl (by kernel_rfl) (by kernel_rfl) (by kernel_rfl) (fun _ _ _ h => h) (Or.inl ⟨by rfl, fun x hx => by go_simp⟩) (by assumption) ?_
  simp only [List.getElem_toArray, List.getElem_cons_zero, List.getElem_cons_succ, Act.put, List.setIfInBounds_toArray, List.set_cons_zero, List.set_cons_succ]
  refine wpAnyH_take (i := 3) (v := .slice (some ⟨gp, 0, none⟩) np cp) rfl (by kernel_rfl) (by kernel_rfl) (by kernel_rfl) (fun _ _ _ h => h) (Or.inl ⟨by rfl, fun x hx => by go_simp⟩) (by assumption) ?_
  simp only [List.getElem_toArray, List.getElem_cons_zero, List.getElem_cons_succ, Act.put, List.setIfInBounds_toArray, List.set_cons_zero, List.set_cons_succ]
  refine wpAnyH_take (i := 8) (v := .slice (some ⟨gp, 0, none⟩) np cp) rfl (by kernel_rfl) (by kernel_rfl) (by kernel_rfl) (fun _ _ _ h => h) (Or.inl ⟨by rfl, fun x hx => by go_simp⟩) (by assumption) ?_
  simp only [List.getElem_toArray, List.getElem_cons_zero, List.getElem_cons_succ, Act.put, List.setIfInBounds_toArray, List.set_cons_zero, List.set_cons_succ]
  refine wpAnyH_take (i := 10) (v := .pointer (some ⟨gp, q, none⟩)) rfl (by kernel_rfl) (by kernel_rfl) (by kernel_rfl) (fun _ _ _ h => h) (Or.inl ⟨by rfl, fun x hx => by go_simp⟩) (by assumption) ?_
  simp only [List.getElem_toArray, List.getElem_cons_zero, List.getElem_cons_succ, Act.put, List.setIfInBounds_toArray, List.set_cons_zero, List.set_cons_succ]
  refine wpAnyH_ready (rs := [11, 14]) (by kernel_rfl) (by simp) (AllReadyH.cons rfl (fun K hK => ?_) (AllReadyH.cons rfl (fun K hK => ?_) AllReadyH.nil))
  · refine step_run rfl (v := pgv) (w' := W.drew) (by go_simp) (hK.out _ _ (by assumption) (fun hS => ?_))
    simp only [List.getElem_toArray, List.getElem_cons_zero, List.getElem_cons_succ, Act.put, List.setIfInBounds_toArray, List.set_cons_zero, List.set_cons_succ]
    refine wpAnyH_ready (rs := [14]) (by kernel_rfl) (by simp) (AllReadyH.cons rfl (fun K hK => ?_) AllReadyH.nil)
    refine step_run rfl (v := .slice (some ⟨W.heap.size, 0, none⟩) 1 1) (w' := W.drew.alloc (.cells (ent Z id).toArray 55)) (bs_step Z id W.drew) (hK.out _ _ (by exact (hBa.cell (p := ⟨bq, 0, none⟩) lq).trans c0) (fun hS => ?_))
    simp only [List.getElem_toArray, List.getElem_cons_zero, List.getElem_cons_succ, Act.put, List.setIfInBounds_toArray, List.set_cons_zero, List.set_cons_succ]
    refine wpAnyH_ready (rs := [15]) (by kernel_rfl) (by simp) (AllReadyH.cons rfl (fun K hK => ?_) AllReadyH.nil)
    refine step_append_lies _ rfl (.tmp 42) (.tmp 45) 81 rfl B 55 i0 _ 35 56 Try.underlying81 hi hz0 hz1 hz2 rfl (by decide) pgv pl xs rfl (by exact hown.alloc _) ⟨W.heap.size, 0, none⟩ 1 1 (ent Z id) rfl rfl (news55 Z id W) (one55 Z id) (by omega) (by unfold maxLen; omega) (by omega) (by simp; omega) (W.heap.size + 1) (by simp) ?_
    intro g cap w1 ho1 hgr hat hlt
    obtain ⟨k0, k1, kg, kf, kf1⟩ := after_app hgr lq lg hvq hvg c0 c1 cg fg f1
    refine hK.out _ _ k0 (fun hS => ?_)
    simp only [List.getElem_toArray, List.getElem_cons_zero, List.getElem_cons_succ, Act.put, List.setIfInBounds_toArray, List.set_cons_zero, List.set_cons_succ]
    refine wpAnyH_take (i := 16) (v := .pointer (some ⟨gp, q, none⟩)) rfl (by kernel_rfl) (by kernel_rfl) (by kernel_rfl) (fun _ _ _ h => h) (Or.inl ⟨by rfl, fun x hx => by go_simp⟩) (by assumption) ?_
    simp only [List.getElem_toArray, List.getElem_cons_zero, List.getElem_cons_succ, Act.put, List.setIfInBounds_toArray, List.set_cons_zero, List.set_cons_succ]
    refine wpAnyH_ready (rs := [17]) (by kernel_rfl) (by simp) (AllReadyH.cons rfl (fun K hK => ?_) AllReadyH.nil)
    go_simp
    refine hK.out _ _ (by rw [World.cell?_setCell_far w1 ⟨gp, q, none⟩ ⟨bq, 0, none⟩ _ (Ne.symm hbg)]; exact k0) (fun hS => ?_)
    refine wpAnyH_done (by kernel_rfl) ?_ _
    have m1 : (w1.setCell ⟨gp, q, none⟩ (.slice (some ⟨g, 0, none⟩) (pl + 1) cap)).cell? ⟨bq, 1, none⟩ = some (.int .i64 n) := by rw [World.cell?_setCell_far w1 ⟨gp, q, none⟩ ⟨bq, 1, none⟩ _ (Ne.symm hbg)]; exact k1
    clear kg kf
    go_wp2
    go_end0
    exact ⟨rfl, W, HW.out, g, cap, w1, ho1, hgr, hat, hlt, rfl⟩
  · refine step_run rfl (v := .slice (some ⟨W.heap.size, 0, none⟩) 1 1) (w' := W.drew.alloc (.cells (ent Z id).toArray 55)) (bs_step Z id W.drew) (hK.out _ _ (by exact (hBa.cell (p := ⟨bq, 0, none⟩) lq).trans c0) (fun hS => ?_))
    simp only [List.getElem_toArray, List.getElem_cons_zero, List.getElem_cons_succ, Act.put, List.setIfInBounds_toArray, List.set_cons_zero, List.set_cons_succ]
    refine wpAnyH_ready (rs := [11]) (by kernel_rfl) (by simp) (AllReadyH.cons rfl (fun K hK => ?_) AllReadyH.nil)
    refine step_run rfl (v := pgv) (w' := W.drew.alloc (.cells (ent Z id).toArray 55)) (by go_simp) (hK.out _ _ (by assumption) (fun hS => ?_))
    simp only [List.getElem_toArray, List.getElem_cons_zero, List.getElem_cons_succ, Act.put, List.setIfInBounds_toArray, List.set_cons_zero, List.set_cons_succ]
    refine wpAnyH_ready (rs := [15]) (by kernel_rfl) (by simp) (AllReadyH.cons rfl (fun K hK => ?_) AllReadyH.nil)
    refine step_append_lies _ rfl (.tmp 42) (.tmp 45) 81 rfl B 55 i0 _ 35 56 Try.underlying81 hi hz0 hz1 hz2 rfl (by decide) pgv pl xs rfl (by exact hown.alloc _) ⟨W.heap.size, 0, none⟩ 1 1 (ent Z id) rfl rfl (news55 Z id W) (one55 Z id) (by omega) (by unfold maxLen; omega) (by omega) (by simp; omega) (W.heap.size + 1) (by simp) ?_
    intro g cap w1 ho1 hgr hat hlt
    obtain ⟨k0, k1, kg, kf, kf1⟩ := after_app hgr lq lg hvq hvg c0 c1 cg fg f1
    refine hK.out _ _ k0 (fun hS => ?_)
    simp only [List.getElem_toArray, List.getElem_cons_zero, List.getElem_cons_succ, Act.put, List.setIfInBounds_toArray, List.set_cons_zero, List.set_cons_succ]
    refine wpAnyH_take (i := 16) (v := .pointer (some ⟨gp, q, none⟩)) rfl (by kernel_rfl) (by kernel_rfl) (by kernel_rfl) (fun _ _ _ h => h) (Or.inl ⟨by rfl, fun x hx => by go_simp⟩) (by assumption) ?_
    simp only [List.getElem_toArray, List.getElem_cons_zero, List.getElem_cons_succ, Act.put, List.setIfInBounds_toArray, List.set_cons_zero, List.set_cons_succ]
    refine wpAnyH_ready (rs := [17]) (by kernel_rfl) (by simp) (AllReadyH.cons rfl (fun K hK => ?_) AllReadyH.nil)
    go_simp
    refine hK.out _ _ (by rw [World.cell?_setCell_far w1 ⟨gp, q, none⟩ ⟨bq, 0, none⟩ _ (Ne.symm hbg)]; exact k0) (fun hS => ?_)
    refine wpAnyH_done (by kernel_rfl) ?_ _
    have m1 : (w1.setCell ⟨gp, q, none⟩ (.slice (some ⟨g, 0, none⟩) (pl + 1) cap)).cell? ⟨bq, 1, none⟩ = some (.int .i64 n) := by rw [World.cell?_setCell_far w1 ⟨gp, q, none⟩ ⟨bq, 1, none⟩ _ (Ne.symm hbg)]; exact k1
    clear kg kf
    go_wp2
    go_end0
    exact ⟨rfl, W, HW.out, g, cap, w1, ho1, hgr, hat, hlt, rfl⟩

end Go.Proofs.Qxb6614053a
