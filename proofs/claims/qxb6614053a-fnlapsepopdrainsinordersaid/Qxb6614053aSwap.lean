import Derived.Test.Qxb6614053aQueue
import Derived.Deep.RegionLaw
namespace Go.Proofs.Qxb6614053a
open Go.ChangeShapes Go.WideShapes Go.ChangeAt Go.RowKit

theorem i55 : (Try.prog.info? 55).map (·.size) = some 35 := by kernel_rfl
theorem step_load_mid {P : Program} {ops : Array Oper} {o : Oper} {a : Act} {w : World} {K : Act → World → Prop} {Q : Exit → Act → World → Prop} {E : Prop} (hg : o.guard = none) (ty : TypeId) (x : Operand) (ho : o.op = .load ty x)
    (b off : Nat) (hx : a.eval x = .pointer (some ⟨b, off, none⟩)) (cs : List Value) (d : TypeDesc) (hc : w.rangeAt b off cs) (hu : P.underlying ty = some d) (hd : d.isRow = true) (hi : (P.info? ty).map (·.size) = some cs.length)
    (h : K (a.put o.dst (.agg cs.toArray)) w) : if Region.wanted o (yielded ops a.tmps) = true then Oper.wp P o a w K Q else E := by
  have hw : Region.wanted o (yielded ops a.tmps) = true := by simp [Region.wanted, hg]
  rw [if_pos hw]
  exact wp_load_mid ty x ho b off hx cs d hc hu hd hi h
theorem step_store_mid {P : Program} {ops : Array Oper} {o : Oper} {a : Act} {w : World} {K : Act → World → Prop} {Q : Exit → Act → World → Prop} {E : Prop} (hg : o.guard = none) (ty : TypeId) (x y : Operand) (ho : o.op = .store ty x y)
    (b off : Nat) (cells : Array Value) (hx : a.eval x = .pointer (some ⟨b, off, none⟩)) (hy : a.eval y = .agg cells) (ht : w.there b off cells.size) (hi : (P.info? ty).map (·.size) = some cells.size) (h1 : cells.all (·.oneCell') = true)
    (h : K (a.put o.dst undef) (w.setCells b off cells.toList)) : if Region.wanted o (yielded ops a.tmps) = true then Oper.wp P o a w K Q else E := by
  have hw : Region.wanted o (yielded ops a.tmps) = true := by simp [Region.wanted, hg]
  rw [if_pos hw]
  exact wp_store_mid ty x y ho b off cells hx hy ht hi h1 h

set_option linter.unusedSimpArgs false in
set_option maxHeartbeats 1000000 in
theorem swap_core (bq i j pi oi pj oj : Nat) (ei ej : List Value) (w : World) (hei : ei.length = 35) (hej : ej.length = 35) (oi1 : ei.toArray.all (·.oneCell') = true) (oj1 : ej.toArray.all (·.oneCell') = true)
    (ri : w.rangeAt pi oi ei) (rj : w.rangeAt pj oj ej) (ti : w.there pi oi 35) (tj : w.there pj oj 35)
    (HI : Hid (Calls Try.prog 35 #[.pointer (some ⟨bq, 0, none⟩), .int .i64 i] w fun e w' => e = .returned (.pointer (some ⟨pi, oi, none⟩)) ∧ w' = w))
    (HJ : Hid (Calls Try.prog 35 #[.pointer (some ⟨bq, 0, none⟩), .int .i64 j] w fun e w' => e = .returned (.pointer (some ⟨pj, oj, none⟩)) ∧ w' = w)) :
    Calls Try.prog 56 #[.pointer (some ⟨bq, 0, none⟩), .int .i64 i, .int .i64 j] w fun e w' => e = .returned (.tuple #[]) ∧ w' = (w.drew.setCells pi oi ej).setCells pj oj ei := by
  go_enter Try.func56, Try.ntmps56
  go_wp2_with (first
    | (go_at_call_of 35 i; refine HI.out.mono ?_; rintro e w1 ⟨rfl, hw⟩; obtain rfl := hw.symm)
    | (go_at_call_of 35 j; refine HJ.out.mono ?_; rintro e w1 ⟨rfl, hw⟩; obtain rfl := hw.symm))
  clear HI HJ
  refine wp_region_any (by kernel_rfl) ?_
  refine wpAny_take (i := 0) (v := .pointer (some ⟨pi, oi, none⟩)) rfl (by kernel_rfl) (by kernel_rfl) (by kernel_rfl) (fun _ _ _ h => h) (Or.inl ⟨by rfl, fun w => by go_simp⟩) ?_
  simp only [List.getElem_toArray, List.getElem_cons_zero, List.getElem_cons_succ, Act.put, List.setIfInBounds_toArray, List.set_cons_zero, List.set_cons_succ]
  refine wpAny_take (i := 1) (v := .pointer (some ⟨pj, oj, none⟩)) rfl (by kernel_rfl) (by kernel_rfl) (by kernel_rfl) (fun _ _ _ h => h) (Or.inl ⟨by rfl, fun w => by go_simp⟩) ?_
  simp only [List.getElem_toArray, List.getElem_cons_zero, List.getElem_cons_succ, Act.put, List.setIfInBounds_toArray, List.set_cons_zero, List.set_cons_succ]
  refine wpAny_take (i := 2) (v := .pointer (some ⟨pj, oj, none⟩)) rfl (by kernel_rfl) (by kernel_rfl) (by kernel_rfl) (fun _ _ _ h => h) (Or.inl ⟨by rfl, fun w => by go_simp⟩) ?_
  simp only [List.getElem_toArray, List.getElem_cons_zero, List.getElem_cons_succ, Act.put, List.setIfInBounds_toArray, List.set_cons_zero, List.set_cons_succ]
  refine wpAny_take (i := 3) (v := .pointer (some ⟨pj, oj, none⟩)) rfl (by kernel_rfl) (by kernel_rfl) (by kernel_rfl) (fun _ _ _ h => h) (Or.inl ⟨by rfl, fun w => by go_simp⟩) ?_
  simp only [List.getElem_toArray, List.getElem_cons_zero, List.getElem_cons_succ, Act.put, List.setIfInBounds_toArray, List.set_cons_zero, List.set_cons_succ]
  refine wpAny_take (i := 5) (v := .pointer (some ⟨pi, oi, none⟩)) rfl (by kernel_rfl) (by kernel_rfl) (by kernel_rfl) (fun _ _ _ h => h) (Or.inl ⟨by rfl, fun w => by go_simp⟩) ?_
  simp only [List.getElem_toArray, List.getElem_cons_zero, List.getElem_cons_succ, Act.put, List.setIfInBounds_toArray, List.set_cons_zero, List.set_cons_succ]
  refine wpAny_take (i := 6) (v := .pointer (some ⟨pi, oi, none⟩)) rfl (by kernel_rfl) (by kernel_rfl) (by kernel_rfl) (fun _ _ _ h => h) (Or.inl ⟨by rfl, fun w => by go_simp⟩) ?_
  simp only [List.getElem_toArray, List.getElem_cons_zero, List.getElem_cons_succ, Act.put, List.setIfInBounds_toArray, List.set_cons_zero, List.set_cons_succ]
  refine wpAny_ready (rs := [4, 7]) (by kernel_rfl) (by simp) (AllReady.cons rfl (fun K hK => ?_) (AllReady.cons rfl (fun K hK => ?_) AllReady.nil))
  · refine step_load_mid rfl 55 (.tmp 17) rfl pj oj rfl ej _ rj Try.underlying55 rfl (by rw [hej]; exact i55) (hK _ _ ?_)
    simp only [List.getElem_toArray, List.getElem_cons_zero, List.getElem_cons_succ, Act.put, List.setIfInBounds_toArray, List.set_cons_zero, List.set_cons_succ]
    refine wpAny_ready (rs := [7]) (by kernel_rfl) (by simp) (AllReady.cons rfl (fun K hK => ?_) AllReady.nil)
    refine step_load_mid rfl 55 (.tmp 20) rfl pi oi rfl ei _ ri Try.underlying55 rfl (by rw [hei]; exact i55) (hK _ _ ?_)
    simp only [List.getElem_toArray, List.getElem_cons_zero, List.getElem_cons_succ, Act.put, List.setIfInBounds_toArray, List.set_cons_zero, List.set_cons_succ]
    refine wpAny_take (i := 8) (v := .pointer (some ⟨pi, oi, none⟩)) rfl (by kernel_rfl) (by kernel_rfl) (by kernel_rfl) (fun _ _ _ h => h) (Or.inl ⟨by rfl, fun w => by go_simp⟩) ?_
    simp only [List.getElem_toArray, List.getElem_cons_zero, List.getElem_cons_succ, Act.put, List.setIfInBounds_toArray, List.set_cons_zero, List.set_cons_succ]
    refine wpAny_ready (rs := [9]) (by kernel_rfl) (by simp) (AllReady.cons rfl (fun K hK => ?_) AllReady.nil)
    refine step_store_mid rfl 55 (.tmp 22) (.tmp 18) rfl pi oi ej.toArray rfl rfl (by rw [List.size_toArray, hej]; exact (World.there_drew _ _ _ _).2 ti) (by rw [List.size_toArray, hej]; exact i55) oj1 (hK _ _ ?_)
    simp only [List.getElem_toArray, List.getElem_cons_zero, List.getElem_cons_succ, Act.put, List.setIfInBounds_toArray, List.set_cons_zero, List.set_cons_succ]
    refine wpAny_take (i := 10) (v := .pointer (some ⟨pj, oj, none⟩)) rfl (by kernel_rfl) (by kernel_rfl) (by kernel_rfl) (fun _ _ _ h => h) (Or.inl ⟨by rfl, fun w => by go_simp⟩) ?_
    simp only [List.getElem_toArray, List.getElem_cons_zero, List.getElem_cons_succ, Act.put, List.setIfInBounds_toArray, List.set_cons_zero, List.set_cons_succ]
    refine wpAny_ready (rs := [11]) (by kernel_rfl) (by simp) (AllReady.cons rfl (fun K hK => ?_) AllReady.nil)
    refine step_store_mid rfl 55 (.tmp 23) (.tmp 21) rfl pj oj ei.toArray rfl rfl (by rw [List.size_toArray, hei]; exact World.there_setCells ((World.there_drew _ _ _ _).2 tj) _ _ _) (by rw [List.size_toArray, hei]; exact i55) oi1 (hK _ _ ?_)
    simp only [List.getElem_toArray, List.getElem_cons_zero, List.getElem_cons_succ, Act.put, List.setIfInBounds_toArray, List.set_cons_zero, List.set_cons_succ]
    refine wpAny_done (by kernel_rfl) ?_ _
    go_wp2
    go_end0
    exact ⟨rfl, rfl⟩
  · refine step_load_mid rfl 55 (.tmp 20) rfl pi oi rfl ei _ ri Try.underlying55 rfl (by rw [hei]; exact i55) (hK _ _ ?_)
    simp only [List.getElem_toArray, List.getElem_cons_zero, List.getElem_cons_succ, Act.put, List.setIfInBounds_toArray, List.set_cons_zero, List.set_cons_succ]
    refine wpAny_ready (rs := [4]) (by kernel_rfl) (by simp) (AllReady.cons rfl (fun K hK => ?_) AllReady.nil)
    refine step_load_mid rfl 55 (.tmp 17) rfl pj oj rfl ej _ rj Try.underlying55 rfl (by rw [hej]; exact i55) (hK _ _ ?_)
    simp only [List.getElem_toArray, List.getElem_cons_zero, List.getElem_cons_succ, Act.put, List.setIfInBounds_toArray, List.set_cons_zero, List.set_cons_succ]
    refine wpAny_take (i := 8) (v := .pointer (some ⟨pi, oi, none⟩)) rfl (by kernel_rfl) (by kernel_rfl) (by kernel_rfl) (fun _ _ _ h => h) (Or.inl ⟨by rfl, fun w => by go_simp⟩) ?_
    simp only [List.getElem_toArray, List.getElem_cons_zero, List.getElem_cons_succ, Act.put, List.setIfInBounds_toArray, List.set_cons_zero, List.set_cons_succ]
    refine wpAny_ready (rs := [9]) (by kernel_rfl) (by simp) (AllReady.cons rfl (fun K hK => ?_) AllReady.nil)
    refine step_store_mid rfl 55 (.tmp 22) (.tmp 18) rfl pi oi ej.toArray rfl rfl (by rw [List.size_toArray, hej]; exact (World.there_drew _ _ _ _).2 ti) (by rw [List.size_toArray, hej]; exact i55) oj1 (hK _ _ ?_)
    simp only [List.getElem_toArray, List.getElem_cons_zero, List.getElem_cons_succ, Act.put, List.setIfInBounds_toArray, List.set_cons_zero, List.set_cons_succ]
    refine wpAny_take (i := 10) (v := .pointer (some ⟨pj, oj, none⟩)) rfl (by kernel_rfl) (by kernel_rfl) (by kernel_rfl) (fun _ _ _ h => h) (Or.inl ⟨by rfl, fun w => by go_simp⟩) ?_
    simp only [List.getElem_toArray, List.getElem_cons_zero, List.getElem_cons_succ, Act.put, List.setIfInBounds_toArray, List.set_cons_zero, List.set_cons_succ]
    refine wpAny_ready (rs := [11]) (by kernel_rfl) (by simp) (AllReady.cons rfl (fun K hK => ?_) AllReady.nil)
    refine step_store_mid rfl 55 (.tmp 23) (.tmp 21) rfl pj oj ei.toArray rfl rfl (by rw [List.size_toArray, hei]; exact World.there_setCells ((World.there_drew _ _ _ _).2 tj) _ _ _) (by rw [List.size_toArray, hei]; exact i55) oi1 (hK _ _ ?_)
    simp only [List.getElem_toArray, List.getElem_cons_zero, List.getElem_cons_succ, Act.put, List.setIfInBounds_toArray, List.set_cons_zero, List.set_cons_succ]
    refine wpAny_done (by kernel_rfl) ?_ _
    go_wp2
    go_end0
    exact ⟨rfl, rfl⟩


theorem kept_setCells {np : Nat} {PB : Nat → Nat} {w : World} {j : Nat} (hj : j < np) : ∀ (vs : List Value) (o : Nat) (x : World), Kept np PB w x → Kept np PB w (x.setCells (PB j) o vs)
  | [], _, _, h => h
  | v :: r, o, x, h => kept_setCells hj r (o + 1) (x.setCell ⟨PB j, o, none⟩ v) ⟨⟨h.1.1, h.1.2.1, h.1.2.2.1, h.1.2.2.2.setCell _ _ _⟩, by have := h.2.1; simp; omega, fun b hb hn => (heap_setCell_other x ⟨PB j, o, none⟩ b v (hn j hj)).trans (h.2.2 b hb hn)⟩

/-- the blocks' cells behind the two stores -/
theorem swap_any {bq gp np cp n : Nat} {PB PL PC : Nat → Nat} {Z : Nat → Int} {a : Nat → Nat} {w : World} (g : Geo w bq gp np cp n PB PL PC) (E : Ents w n PB Z a) (i j : Nat) (hi : i < n) (hj : j < n) :
    Calls Try.prog 56 #[.pointer (some ⟨bq, 0, none⟩), .int .i64 i, .int .i64 j] w fun e w' => e = .returned (.tuple #[]) ∧ Kept np PB w w' ∧ Ents w' n PB Z (swp a i j) := by
  have gi := at_any g i hi
  have gj := at_any g j hj
  have g9 := g.2.2.2.2.2
  have g5 := g.2.2.2.1
  refine (swap_core bq i j (PB (i / 1024)) (i % 1024 * 35) (PB (j / 1024)) (j % 1024 * 35) (ent Z (a i)) (ent Z (a j)) w rfl rfl (ent_one _ _) (ent_one _ _) (E i hi).1 (E j hj).1 (E i hi).2 (E j hj).2 gi gj).mono ?_
  rintro e w' ⟨rfl, rfl⟩
  have hp : ∀ {k m : Nat}, k < n → m < n → k ≠ m → PB (k / 1024) ≠ PB (m / 1024) ∨ k % 1024 * 35 + 35 ≤ m % 1024 * 35 ∨ m % 1024 * 35 + 35 ≤ k % 1024 * 35 := by
    intro k m hk hm hne
    by_cases e : PB (k / 1024) = PB (m / 1024)
    · have := g5 _ _ (g9 k hk).1 (g9 m hm).1 e
      right; omega
    · exact .inl e
  refine ⟨rfl, ?_, fun k hk => ⟨?_, ?_⟩⟩
  · exact kept_setCells (g9 j hj).1 _ _ _ (kept_setCells (g9 i hi).1 _ _ _ (Kept.of_below ((Below.refl _ _).drew)))
  · by_cases ej : k = j
    · subst ej
      rw [swp_j]
      exact World.rangeAt_setCells_same _ _ _ _ (World.there_setCells ((World.there_drew _ _ _ _).2 (E k hk).2) _ _ _)
    · refine World.rangeAt_setCells_apart ?_ _ _ _ (by rw [ent_len, ent_len]; exact hp hk hj ej)
      by_cases ei : k = i
      · subst ei
        rw [swp_i]
        exact World.rangeAt_setCells_same _ _ _ _ ((World.there_drew _ _ _ _).2 (E k hk).2)
      · rw [swp_o a ei ej]
        refine World.rangeAt_setCells_apart ((World.rangeAt_drew _ _ _ _).2 (E k hk).1) _ _ _ (by rw [ent_len, ent_len]; exact hp hk hi ei)
  · exact World.there_setCells (World.there_setCells ((World.there_drew _ _ _ _).2 (E k hk).2) _ _ _) _ _ _
end Go.Proofs.Qxb6614053a
