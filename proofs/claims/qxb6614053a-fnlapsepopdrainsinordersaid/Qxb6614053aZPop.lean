import Derived.Test.Qxb6614053aPopC
namespace Go.Proofs.Qxb6614053a
open Go.ChangeShapes Go.WideShapes Go.ChangeAt Go.RowKit

theorem i51 : (Try.prog.info? 51).map (·.size) = some 3 := by kernel_rfl
theorem ent_key {x : World} {b : Nat} {Z : Nat → Int} {i : Nat} (h : x.rangeAt b 0 (ent Z i)) : x.rangeAt b 0 (keyCells (i : Int)).toList := fun j v hv => h j v (by
  have hj := (List.getElem?_eq_some_iff.1 hv).1
  unfold ent
  rw [List.getElem?_append_left hj]
  exact hv)
theorem ent_tm {x : World} {b : Nat} {Z : Nat → Int} {i : Nat} (h : x.rangeAt b 0 (ent Z i)) : x.rangeAt b 32 [.int .u64 (Z i % 1000000000), .int .i64 (Z i / 1000000000), .pointer none] := fun j v hv => by
  have h1 := h (32 + j) v (by
    unfold ent
    have hl : (keyCells (i : Int)).toList.length = 32 := rfl
    rw [List.getElem?_append_right (by omega), hl, Nat.add_sub_cancel_left]
    exact hv)
  rw [Nat.zero_add] at h1
  exact h1
/-- a struct or an array handed back out of its cell, and a number beside it -/
theorem res_two {P : Program} {fn : Func} {p q : Tmp} {ty : TypeId} (h : fn.results = #[.cell p ty, .tmp q]) (tmps : Array Value) (w : World) (b o : Nat) (hp : tmps.getD p undef = .pointer (some ⟨b, o, none⟩)) (u : Value) (hq : tmps.getD q undef = u) (cs : List Value) (d : TypeDesc)
    (hc : w.rangeAt b o cs) (hu : P.underlying ty = some d) (hd : d.isRow = true) (hi : (P.info? ty).map (·.size) = some cs.length) : (results fn tmps).run P w = .ok (.tuple #[.agg cs.toArray, u]) w := by
  have hl := run_loadVar_mid (P := P) w b o ty cs d hc hu hd hi
  have hp' : tmps[p]?.getD undef = .pointer (some ⟨b, o, none⟩) := by simpa using hp
  have hq' : tmps[q]?.getD undef = u := by simpa using hq
  simp only [results, h]
  simp [hp', hq', asAddr, hl]
abbrev z27 : Array Value := #[.int .u8 0, .int .u8 0, .int .u8 0, .int .u8 0, .int .u8 0, .int .u8 0, .int .u8 0, .int .u8 0, .int .u8 0, .int .u8 0, .int .u8 0, .int .u8 0, .int .u8 0, .int .u8 0, .int .u8 0, .int .u8 0, .int .u8 0, .int .u8 0, .int .u8 0, .int .u8 0, .int .u8 0, .int .u8 0, .int .u8 0, .int .u8 0, .int .u8 0, .int .u8 0, .int .u8 0, .int .u8 0, .int .u8 0, .int .u8 0, .int .u8 0, .int .u8 0]
theorem z27_size : z27.size = 32 := rfl
theorem there_27 (x : World) (b : Nat) (hb : b = x.heap.size) : (x.alloc (.cells z27 27)).there b 0 32 := there_last _ _ _ _ 32 hb (by rw [z27_size]; omega)

set_option linter.unusedSimpArgs false in
set_option maxHeartbeats 4000000 in
set_option maxRecDepth 100000 in
theorem zzpop_any {B C : Nat} {w : World} {bq n : Nat} {Z : Nat → Int} {a : Nat → Nat} (h : P B C w bq (n + 1) Z a) (hh : Heap Z a (n + 1)) (z0 : -9223372036854775808 ≤ Z (a 0)) (z1 : Z (a 0) ≤ 9223372036854775807) :
    Calls Try.prog 10 #[.pointer (some ⟨bq, 0, none⟩)] w fun e w' => e = .returned (.tuple #[.agg (keyCells (a 0 : Nat)), .int .i64 (Z (a 0))]) ∧ ∃ a', P B C w' bq n Z a' ∧ Same (swp a 0 n) a' n ∧ Heap Z a' n ∧ Keep B C w w' := by
  have hC := h.lim.1
  have hb0 : Below w.heap.size w (w.alloc (.cells z27 27)) := (Below.refl _ _).alloc (Nat.le_refl _) _
  have HP : Hid (Calls Try.prog 21 #[.pointer (some ⟨bq, 0, none⟩)] (w.alloc (.cells z27 27)) fun e w' => e = .returned (.agg (ent Z (a 0)).toArray) ∧ ∃ a', P B C w' bq n Z a' ∧ Same (swp a 0 n) a' n ∧ Heap Z a' n ∧ Keep B C (w.alloc (.cells z27 27)) w') := pop_any (h.kept hb0) hh
  obtain ⟨i, hi⟩ : ∃ i, a 0 = i := ⟨_, rfl⟩
  rw [hi] at z0 z1 HP ⊢
  have HS : Hid (∀ x, Calls Try.prog 22 #[.agg #[.int .u64 (Z i % 1000000000), .int .i64 (Z i / 1000000000), .pointer none], .agg #[.int .u64 0, .int .i64 0, .pointer none]] x fun e w' => e = .returned (.int .i64 (Z i)) ∧ Below x.heap.size x w') := fun x => sub_any (Z i) x z0 z1
  clear h hh z0 z1 hi
  obtain ⟨r, er⟩ : ∃ r, w.heap.size = r := ⟨_, rfl⟩
  go_enter Try.func10, Try.ntmps10
  go_wp2_with (first
    | (go_at_call 21; refine (HP.out).mono ?_; rintro e w1 ⟨rfl, q1⟩; have HQ1 : Hid (∃ a', P B C w1 bq n Z a' ∧ Same (swp a 0 n) a' n ∧ Heap Z a' n ∧ Keep B C (w.alloc (.cells z27 27)) w1) := q1; clear q1)
    | (refine wpList_store_mid rfl 55 (.tmp 4) (.tmp 6) rfl w1.heap.size 0 (ent Z i).toArray rfl rfl (there_vs _ _ _ (ent_len _ _) rfl) (i55v _ (ent_len _ _)) (ent_one _ _) ?_))
  obtain ⟨r2, er2⟩ : ∃ r2, w1.heap.size = r2 := ⟨_, rfl⟩
  refine wp_gen (fun x => x.rangeAt r2 0 (ent Z i) ∧ x.there r 0 32 ∧ r2 < x.heap.size ∧ r < r2 ∧ ∃ a', P B C x bq n Z a' ∧ Same (swp a 0 n) a' n ∧ Heap Z a' n ∧ Keep B C w x) ?gen ?_
  case gen =>
    obtain ⟨a', hP, hs, hh, hk⟩ := HQ1.out
    subst er er2
    have hb : Below w1.heap.size w1 ((w1.alloc (.cells z55 55)).setCells w1.heap.size 0 (ent Z i)) := below_setCells (Nat.le_refl _) _ _ _ ((Below.refl _ _).alloc (Nat.le_refl _) _)
    have lt : w.heap.size < w1.heap.size := Nat.lt_of_lt_of_le (by simp) hk.2.1
    refine ⟨World.rangeAt_setCells_same _ _ _ _ (by rw [ent_len]; exact there_z _ _ rfl), ?_, ?_, lt, a', hP.kept hb, hs, hh, ((Keep.of_below hb0).trans hk).trans (Keep.of_below hb)⟩
    · refine there_of_block (w := w1) (there_of_block (there_27 w _ rfl) (hk.2.2 _ (by simp) (.inr hC))) (hb.block _ lt)
    · rw [(same_setCells _ _ _).2]; simp
  rintro W ⟨hr, ht, lr2, hrr, HW⟩
  have HWW : Hid (∃ a', P B C W bq n Z a' ∧ Same (swp a 0 n) a' n ∧ Heap Z a' n ∧ Keep B C w W) := HW
  have lr : r < W.heap.size := by omega
  have hne : r2 ≠ r := by omega
  clear HW HQ1 HP hb0
  rw [er2]
  clear er2
  simp only [Act.put]
  refine wp_region_held_drew (S := fun x => x.rangeAt r2 0 (ent Z i) ∧ x.there r 0 32) (by kernel_rfl) ⟨hr, ht⟩ (fun hS => ?_)
  refine wpAnyH_take (i := 0) (v := .pointer (some ⟨r2, 0, none⟩)) rfl (by kernel_rfl) (by kernel_rfl) (by kernel_rfl) (fun _ _ _ h => h) (Or.inl ⟨by rfl, fun x hx => by go_simp⟩) (by assumption) ?_
  simp only [List.getElem_toArray, List.getElem_cons_zero, List.getElem_cons_succ, Act.put, List.setIfInBounds_toArray, List.set_cons_zero, List.set_cons_succ]
  refine wpAnyH_take (i := 2) (v := .pointer (some ⟨r2, 32, none⟩)) rfl (by kernel_rfl) (by kernel_rfl) (by kernel_rfl) (fun _ _ _ h => h) (Or.inl ⟨by rfl, fun x hx => by go_simp⟩) (by assumption) ?_
  simp only [List.getElem_toArray, List.getElem_cons_zero, List.getElem_cons_succ, Act.put, List.setIfInBounds_toArray, List.set_cons_zero, List.set_cons_succ]
  refine wpAnyH_take (i := 4) (v := .agg #[.int .u64 0, .int .i64 0, .pointer none]) rfl (by kernel_rfl) (by kernel_rfl) (by kernel_rfl) (fun _ _ _ h => h) (Or.inl ⟨by rfl, fun x hx => by go_simp⟩) (by assumption) ?_
  simp only [List.getElem_toArray, List.getElem_cons_zero, List.getElem_cons_succ, Act.put, List.setIfInBounds_toArray, List.set_cons_zero, List.set_cons_succ]
  refine wpAnyH_take (i := 1) (v := .agg (keyCells (i : Int)).toList.toArray) rfl (by kernel_rfl) (by kernel_rfl) (by kernel_rfl) (fun _ _ _ h => h) (yieldsIf_load_mid rfl 27 (.tmp 7) rfl r2 0 rfl (keyCells (i : Int)).toList _ (fun x hx => ent_key hx.1) Try.underlying27 rfl i27) (by assumption) ?_
  simp only [List.getElem_toArray, List.getElem_cons_zero, List.getElem_cons_succ, Act.put, List.setIfInBounds_toArray, List.set_cons_zero, List.set_cons_succ]
  refine wpAnyH_take (i := 3) (v := .agg [.int .u64 (Z i % 1000000000), .int .i64 (Z i / 1000000000), .pointer none].toArray) rfl (by kernel_rfl) (by kernel_rfl) (by kernel_rfl) (fun _ _ _ h => h) (yieldsIf_load_mid rfl 51 (.tmp 9) rfl r2 32 rfl [.int .u64 (Z i % 1000000000), .int .i64 (Z i / 1000000000), .pointer none] _ (fun x hx => ent_tm hx.1) Try.underlying51 rfl i51) (by assumption) ?_
  simp only [List.getElem_toArray, List.getElem_cons_zero, List.getElem_cons_succ, Act.put, List.setIfInBounds_toArray, List.set_cons_zero, List.set_cons_succ]
  refine wpAnyH_ready (rs := [5]) (by kernel_rfl) (by simp) (AllReadyH.cons rfl (fun K hK => ?_) AllReadyH.nil)
  go_simp
  go_wp2_with (go_at_call 22; refine (HS.out _).mono ?_; rintro e w1 ⟨rfl, hb1⟩)
  refine hK.out _ _ ⟨range_of_block hr (hb1.block _ lr2), there_of_block ht (hb1.block _ lr)⟩ (fun hS1 => ?_)
  refine wpAnyH_ready (rs := [6]) (by kernel_rfl) (by simp) (AllReadyH.cons rfl (fun K hK => ?_) AllReadyH.nil)
  refine step_store_mid rfl 27 (.tmp 2) (.tmp 8) rfl r 0 (keyCells (i : Int)) rfl rfl (by exact hS1.2) i27 (key_one _) (hK.out _ _ ⟨World.rangeAt_setCells_apart hS1.1 _ _ _ (.inl hne), World.there_setCells hS1.2 _ _ _⟩ (fun hS2 => ?_))
  simp only [List.getElem_toArray, List.getElem_cons_zero, List.getElem_cons_succ, Act.put, List.setIfInBounds_toArray, List.set_cons_zero, List.set_cons_succ]
  refine wpAnyH_take (i := 7) (v := .int .i64 (Z i)) rfl (by kernel_rfl) (by kernel_rfl) (by kernel_rfl) (fun _ _ _ h => h) (Or.inl ⟨by rfl, fun x hx => by go_simp⟩) (by assumption) ?_
  simp only [List.getElem_toArray, List.getElem_cons_zero, List.getElem_cons_succ, Act.put, List.setIfInBounds_toArray, List.set_cons_zero, List.set_cons_succ]
  refine wpAnyH_done (by kernel_rfl) ?_ _
  go_wp2
  refine bodyPost_ret (v := .tuple #[.agg (keyCells (i : Nat)), .int .i64 (Z i)]) (res_two Try.results10 _ _ r 0 rfl _ rfl (keyCells (i : Int)).toList _ (World.rangeAt_setCells_same _ _ _ _ (by exact hS1.2)) Try.underlying27 rfl i27) rfl ⟨rfl, ?_⟩
  obtain ⟨a', hP, hs, hh, hk⟩ := HWW.out
  have hb2 : Below W.heap.size W w1 := ((Below.refl _ _).drew).trans hb1
  have k1 : Keep B C w w1 := hk.trans (Keep.of_below hb2)
  refine ⟨a', (hP.kept hb2).far (fun b hb => heap_setCells_other _ _ _ b (by omega)) (by rw [(same_setCells _ _ _).2]; exact Nat.le_refl _), hs, hh, ?_⟩
  refine ⟨by rw [(same_setCells _ _ _).1.1, (same_setCells _ _ _).1.2.1, (same_setCells _ _ _).1.2.2]; exact k1.1, by rw [(same_setCells _ _ _).2]; exact k1.2.1, fun b hb hc => ?_⟩
  exact (heap_setCells_other _ _ _ b (by omega)).trans (k1.2.2 b hb hc)
end Go.Proofs.Qxb6614053a
