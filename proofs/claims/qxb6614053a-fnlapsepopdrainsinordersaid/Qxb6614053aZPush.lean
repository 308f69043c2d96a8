import Derived.Test.Qxb6614053aHPush
namespace Go.Proofs.Qxb6614053a
open Go.ChangeShapes Go.WideShapes Go.ChangeAt Go.RowKit


set_option linter.unusedSimpArgs false in
set_option maxHeartbeats 4000000 in
set_option maxRecDepth 100000 in
theorem zzpush_any {B : Nat} {w0 w : World} {bq n : Nat} {Z : Nat → Int} {a : Nat → Nat} (id : Nat) (z : Int) (hz : Z id = z) (h : Q B w0 w bq n Z a) (hn : n < 65536) (hh : Heap Z a n) (z0 : -9223372036854775808 ≤ z) (z1 : z ≤ 9223372036854775807) :
    Calls Try.prog 7 #[.pointer (some ⟨bq, 0, none⟩), .agg (keyCells (id : Int)), .int .i64 z] w fun e w' => e = .returned (.tuple #[]) ∧
      ∃ a', Q B w0 w' bq (n + 1) Z a' ∧ Same (fun i => if i = n then id else a i) a' (n + 1) ∧ Heap Z a' (n + 1) := by
  subst hz
  have HA : Hid (∀ x, Calls Try.prog 19 #[.agg #[.int .u64 0, .int .i64 0, .pointer none], .int .i64 (Z id)] x fun e w' => e = .returned (.agg #[.int .u64 (Z id % 1000000000), .int .i64 (Z id / 1000000000), .pointer none]) ∧ Below x.heap.size x w') := fun x => add_any (Z id) x z0 z1
  have HP : Hid (∀ x, Below w.heap.size w x → Calls Try.prog 18 #[.iface 24 (.pointer (some ⟨bq, 0, none⟩)), .iface 55 (.agg (ent Z id).toArray)] x fun e w' => e = .returned (.tuple #[]) ∧
      ∃ a', Q B w0 w' bq (n + 1) Z a' ∧ Same (fun i => if i = n then id else a i) a' (n + 1) ∧ Heap Z a' (n + 1)) := fun x hx => hpush_any id (h.kept hx) hn hh
  clear h hh z0 z1
  go_enter Try.func7, Try.ntmps7
  go_wp2
  refine wp_gen (fun x => Below w.heap.size w x ∧ x.rangeAt w.heap.size 0 (keyCells (id : Int)).toList ∧ w.heap.size < x.heap.size) ⟨(Below.refl _ _).alloc (Nat.le_refl _) _, range_last w _ _ _ rfl, by simp⟩ ?_
  rintro W ⟨HW, hr, hkb⟩
  refine wp_region_any (by kernel_rfl) ?_
  change wpAny _ _ _ _ _ _ _ (World.drew _)
  refine wpAny_take (i := 0) (v := .pointer (some ⟨bq, 0, none⟩)) rfl (by kernel_rfl) (by kernel_rfl) (by kernel_rfl) (fun _ _ _ h => h) (Or.inl ⟨by rfl, fun w => by go_simp⟩) ?_
  simp only [List.getElem_toArray, List.getElem_cons_zero, List.getElem_cons_succ, Act.put, List.setIfInBounds_toArray, List.set_cons_zero, List.set_cons_succ]
  refine wpAny_take (i := 1) (v := .iface 24 (.pointer (some ⟨bq, 0, none⟩))) rfl (by kernel_rfl) (by kernel_rfl) (by kernel_rfl) (fun _ _ _ h => h) (Or.inl ⟨by rfl, fun w => by go_simp⟩) ?_
  simp only [List.getElem_toArray, List.getElem_cons_zero, List.getElem_cons_succ, Act.put, List.setIfInBounds_toArray, List.set_cons_zero, List.set_cons_succ]
  refine wpAny_take (i := 3) (v := .agg #[.int .u64 0, .int .i64 0, .pointer none]) rfl (by kernel_rfl) (by kernel_rfl) (by kernel_rfl) (fun _ _ _ h => h) (Or.inl ⟨by rfl, fun w => by go_simp⟩) ?_
  simp only [List.getElem_toArray, List.getElem_cons_zero, List.getElem_cons_succ, Act.put, List.setIfInBounds_toArray, List.set_cons_zero, List.set_cons_succ]
  refine wpAny_take (i := 4) (v := .int .i64 (Z id)) rfl (by kernel_rfl) (by kernel_rfl) (by kernel_rfl) (fun _ _ _ h => h) (Or.inl ⟨by rfl, fun w => by go_simp⟩) ?_
  simp only [List.getElem_toArray, List.getElem_cons_zero, List.getElem_cons_succ, Act.put, List.setIfInBounds_toArray, List.set_cons_zero, List.set_cons_succ]
  refine wpAny_ready (rs := [2, 5]) (by kernel_rfl) (by simp) (AllReady.cons rfl (fun K hK => ?_) (AllReady.cons rfl (fun K hK => ?_) AllReady.nil))
  · refine step_load_mid rfl 27 (.tmp 4) rfl w.heap.size 0 rfl (keyCells (id : Int)).toList _ (by exact hr) Try.underlying27 rfl i27 (hK _ _ ?_)
    simp only [List.getElem_toArray, List.getElem_cons_zero, List.getElem_cons_succ, Act.put, List.setIfInBounds_toArray, List.set_cons_zero, List.set_cons_succ]
    refine wpAny_ready (rs := [5]) (by kernel_rfl) (by simp) (AllReady.cons rfl (fun K hK => ?_) AllReady.nil)
    go_simp
    go_wp2_with (go_at_call 19; refine (HA.out _).mono ?_; rintro e w1 ⟨rfl, hb1⟩)
    refine wpAny_take (i := 6) (v := .agg (ent Z id).toArray) rfl (by kernel_rfl) (by kernel_rfl) (by kernel_rfl) (fun _ _ _ h => h) (Or.inl ⟨by rfl, fun w => by kernel_rfl⟩) ?_
    simp only [List.getElem_toArray, List.getElem_cons_zero, List.getElem_cons_succ, Act.put, List.setIfInBounds_toArray, List.set_cons_zero, List.set_cons_succ]
    refine wpAny_take (i := 7) (v := .iface 55 (.agg (ent Z id).toArray)) rfl (by kernel_rfl) (by kernel_rfl) (by kernel_rfl) (fun _ _ _ h => h) (Or.inl ⟨by rfl, fun w => by go_simp⟩) ?_
    simp only [List.getElem_toArray, List.getElem_cons_zero, List.getElem_cons_succ, Act.put, List.setIfInBounds_toArray, List.set_cons_zero, List.set_cons_succ]
    refine wpAny_ready (rs := [8]) (by kernel_rfl) (by simp) (AllReady.cons rfl (fun K hK => ?_) AllReady.nil)
    go_simp
    go_wp2_with (go_at_call 18; refine (HP.out _ (by exact (HW.drew).trans (hb1.mono (by have := HW.size; exact this)))).mono ?_; rintro e w2 ⟨rfl, q2⟩; have HQ2 : Hid (∃ a', Q B w0 w2 bq (n + 1) Z a' ∧ Same (fun i => if i = n then id else a i) a' (n + 1) ∧ Heap Z a' (n + 1)) := q2; clear q2)
    refine wpAny_done (by kernel_rfl) ?_ _
    go_wp2
    go_end0
    exact ⟨rfl, HQ2.out⟩
  · go_simp
    go_wp2_with (go_at_call 19; refine (HA.out _).mono ?_; rintro e w1 ⟨rfl, hb1⟩)
    refine wpAny_ready (rs := [2]) (by kernel_rfl) (by simp) (AllReady.cons rfl (fun K hK => ?_) AllReady.nil)
    refine step_load_mid rfl 27 (.tmp 4) rfl w.heap.size 0 rfl (keyCells (id : Int)).toList _ (by exact range_of_block hr (hb1.block _ (by exact hkb))) Try.underlying27 rfl i27 (hK _ _ ?_)
    simp only [List.getElem_toArray, List.getElem_cons_zero, List.getElem_cons_succ, Act.put, List.setIfInBounds_toArray, List.set_cons_zero, List.set_cons_succ]
    refine wpAny_take (i := 6) (v := .agg (ent Z id).toArray) rfl (by kernel_rfl) (by kernel_rfl) (by kernel_rfl) (fun _ _ _ h => h) (Or.inl ⟨by rfl, fun w => by kernel_rfl⟩) ?_
    simp only [List.getElem_toArray, List.getElem_cons_zero, List.getElem_cons_succ, Act.put, List.setIfInBounds_toArray, List.set_cons_zero, List.set_cons_succ]
    refine wpAny_take (i := 7) (v := .iface 55 (.agg (ent Z id).toArray)) rfl (by kernel_rfl) (by kernel_rfl) (by kernel_rfl) (fun _ _ _ h => h) (Or.inl ⟨by rfl, fun w => by go_simp⟩) ?_
    simp only [List.getElem_toArray, List.getElem_cons_zero, List.getElem_cons_succ, Act.put, List.setIfInBounds_toArray, List.set_cons_zero, List.set_cons_succ]
    refine wpAny_ready (rs := [8]) (by kernel_rfl) (by simp) (AllReady.cons rfl (fun K hK => ?_) AllReady.nil)
    go_simp
    go_wp2_with (go_at_call 18; refine (HP.out _ (by exact (HW.drew).trans (hb1.mono (by have := HW.size; exact this)))).mono ?_; rintro e w2 ⟨rfl, q2⟩; have HQ2 : Hid (∃ a', Q B w0 w2 bq (n + 1) Z a' ∧ Same (fun i => if i = n then id else a i) a' (n + 1) ∧ Heap Z a' (n + 1)) := q2; clear q2)
    refine wpAny_done (by kernel_rfl) ?_ _
    go_wp2
    go_end0
    exact ⟨rfl, HQ2.out⟩
end Go.Proofs.Qxb6614053a
