import Derived.Test.Qxb6614111aSmall
namespace Go.Proofs.Qxb6614111a
open Go.ChangeShapes Go.WideShapes Go.ChangeAt Go.RowKit

theorem lit_news (w : World) (o1 : Obj) (k t x : Int) : ∀ (j : Nat) (u : Value), ([Value.int .u8 k, .int .i32 t, .int .i32 x] : List Value)[j]? = some u →
    ((w.alloc o1).alloc (.cells #[.int .u8 k, .int .i32 t, .int .i32 x] 43)).drew.cell? ((⟨w.heap.size + 1, 0, none⟩ : Addr).add j) = some u := by
  have hb : ((w.alloc o1).alloc (.cells #[.int .u8 k, .int .i32 t, .int .i32 x] 43)).drew.heap[w.heap.size + 1]? = some (.cells #[.int .u8 k, .int .i32 t, .int .i32 x] 43) := by
    have h := heap_alloc_new (w.alloc o1) (.cells #[.int .u8 k, .int .i32 t, .int .i32 x] 43)
    have e : (w.alloc o1).heap.size = w.heap.size + 1 := by simp
    rw [e] at h
    exact h
  exact World.news_of_block hb
theorem lit_one (k t x : Int) : ∀ u ∈ ([Value.int .u8 k, .int .i32 t, .int .i32 x] : List Value), u.oneCell' = true := by
  intro u hu
  simp at hu
  rcases hu with rfl | rfl | rfl <;> rfl
theorem far_do {w w1 : World} {o1 o2 : Obj} {row : Option Nat} (hg : World.grownBy ((w.alloc o1).alloc o2).drew w1 row) {b : Nat} (hlt : b < w.heap.size) (hne : row ≠ some b) (o : Nat) :
    w1.cell? ⟨b, o, none⟩ = w.cell? ⟨b, o, none⟩ ∧ w1.frozen? ⟨b, o, none⟩ = w.frozen? ⟨b, o, none⟩ := by
  have hs : b < ((w.alloc o1).alloc o2).drew.heap.size := by show b < ((w.alloc o1).alloc o2).heap.size; simp; omega
  have hb : Below w.heap.size w ((w.alloc o1).alloc o2).drew := (((Below.refl _ _).alloc (Nat.le_refl _) _).alloc (by simp) _).drew
  exact ⟨(hg.cell_far ⟨b, o, none⟩ hs (Ne.symm hne)).trans (hb.cell (p := ⟨b, o, none⟩) hlt), (hg.frozen_far ⟨b, o, none⟩ hs (Ne.symm hne)).trans (hb.frozen (p := ⟨b, o, none⟩) hlt)⟩

/-- what 'do' leaves: the output's row is longer by the operation; the field 'out' holds it; all else that was there is as it was -/
def Did (w w' : World) (bs base n : Nat) (v : Value) (xs news : List Value) : Prop :=
  ∃ g cap, w'.cell? ⟨bs, 3, none⟩ = some (.slice (some ⟨g, 0, none⟩) (n + 1) cap) ∧ w'.frozen? ⟨bs, 3, none⟩ = false ∧ w'.ownsRow base 43 3 (.slice (some ⟨g, 0, none⟩) (n + 1) cap) (n + 1) (xs ++ news) ∧
    (v.ownBlock = some g ∨ w.heap.size ≤ g) ∧ (∀ B, B ≤ bs → (∀ g', v.ownBlock = some g' → B ≤ g') → B ≤ w.heap.size → Below B w w') ∧
    (∀ b o, b < w.heap.size → v.ownBlock ≠ some b → (b = bs → o ≠ 3) → w'.cell? ⟨b, o, none⟩ = w.cell? ⟨b, o, none⟩) ∧ w.heap.size ≤ w'.heap.size

theorem do_close {w w1 : World} {o1 o2 : Obj} {bs base n g cap : Nat} {v : Value} {xs news : List Value}
    (lbs : bs < w.heap.size) (hvb : v.ownBlock ≠ some bs) (hf3 : w.frozen? ⟨bs, 3, none⟩ = false) {u : Value} (hs3 : w.cell? ⟨bs, 3, none⟩ = some u)
    (ho1 : w1.ownsRow base 43 3 (.slice (some ⟨g, 0, none⟩) (n + 1) cap) (n + 1) (xs ++ news)) (hgr : World.grownBy ((w.alloc o1).alloc o2).drew w1 v.ownBlock) (hat : v.ownBlock = some g ∨ g = w.heap.size + 2) :
    Did w (w1.setCell ⟨bs, 3, none⟩ (.slice (some ⟨g, 0, none⟩) (n + 1) cap)) bs base n v xs news := by
  have hgb : g ≠ bs := by
    rcases hat with h | h
    · intro e; exact hvb (by rw [h, e])
    · omega
  have e3 := far_do hgr lbs hvb 3
  have hsz : w.heap.size + 2 ≤ w1.heap.size := by
    have := hgr.size
    have e : ((w.alloc o1).alloc o2).drew.heap.size = w.heap.size + 2 := by show ((w.alloc o1).alloc o2).heap.size = _; simp
    omega
  have hb2 : Below w.heap.size w ((w.alloc o1).alloc o2).drew := (((Below.refl _ _).alloc (Nat.le_refl _) _).alloc (by simp) _).drew
  refine ⟨g, cap, ?_, ?_, ?_, ?_, ?_, ?_, ?_⟩
  · exact World.cell?_setCell_same w1 ⟨bs, 3, none⟩ _ (e3.1.trans hs3)
  · rw [World.frozen?_setCell, e3.2]; exact hf3
  · refine ⟨ho1.1, ?_⟩
    rcases ho1.2 with ⟨h, _⟩ | ⟨g', cap', cur, h, hbg, hg, rest⟩
    · simp at h
    · simp only [Value.slice.injEq, Option.some.injEq, Addr.mk.injEq, and_true, true_and] at h
      obtain ⟨rfl, rfl⟩ := h
      exact .inr ⟨g, cap, cur, rfl, hbg, (heap_setCell_other w1 ⟨bs, 3, none⟩ g _ hgb).trans hg, rest⟩
  · rcases hat with h | h
    · exact .inl h
    · exact .inr (by omega)
  · intro B hB hg' hBw
    have hb3 : Below B ((w.alloc o1).alloc o2).drew w1 := ⟨hgr.os, hgr.tape, hgr.output, hgr.size, fun kk hkk => hgr.block kk (by have := hb2.size; omega) (fun e => by have := hg' kk e.symm; omega)⟩
    exact ((hb2.mono hBw).trans hb3).setCell hB _
  · intro b o hb hv hne
    have hfar := far_do hgr hb hv o
    by_cases e : b = bs
    · subst e
      rw [World.cell?_setCell_other w1 ⟨b, 3, none⟩ ⟨b, o, none⟩ _ (fun ee => hne rfl (by simpa using (congrArg Addr.off ee).symm))]
      exact hfar.1
    · rw [World.cell?_setCell_far w1 ⟨bs, 3, none⟩ ⟨b, o, none⟩ _ (fun ee => e ee.symm)]
      exact hfar.1
  · simp; omega

set_option maxHeartbeats 1000000 in
theorem do_any (bs bh bo nops p base n : Nat) (k t x : Int) (v : Value) (xs : List Value) (w : World)
    (hs0 : w.cell? ⟨bs, 0, none⟩ = some (.pointer (some ⟨bh, 0, none⟩))) (hs2 : w.cell? ⟨bs, 2, none⟩ = some (.pointer none)) (hs3 : w.cell? ⟨bs, 3, none⟩ = some v) (hf3 : w.frozen? ⟨bs, 3, none⟩ = false)
    (hh : w.cell? ⟨bh, 0, none⟩ = some (.slice (some ⟨bo, 0, none⟩) nops nops))
    (hk : w.cell? ⟨bo, p * 3, none⟩ = some (.int .u8 k)) (ht : w.cell? ⟨bo, p * 3 + 1, none⟩ = some (.int .i32 t)) (hx : w.cell? ⟨bo, p * 3 + 2, none⟩ = some (.int .i32 x))
    (hp : p < nops) (hown : w.ownsRow base 43 3 v n xs) (hn : n ≤ 200000) (hbase : base ≤ w.heap.size) (lbs : bs < w.heap.size) (hvb : v.ownBlock ≠ some bs) :
    Calls Try.prog 11 #[.pointer (some ⟨bs, 0, none⟩), .int .i64 p] w fun e w' => e = .returned (.tuple #[]) ∧ Did w w' bs base n v xs [.int .u8 k, .int .i32 t, .int .i32 x] := by
  obtain ⟨i0, hi, hz0, hz1, hz2⟩ := info_parts info43
  have hpi : (p : Int) < (nops : Int) := by omega
  go_enter Try.func11, Try.ntmps11
  go_wp2
  go_region_law (refine step_append_lies _ rfl (.tmp 21) (.tmp 23) 26 rfl base 43 i0 _ 3 12 Try.underlying26 hi hz0 hz1 hz2 rfl (by decide) v n xs (by simp [Act.eval]) (by exact (hown.alloc _).alloc _) ⟨w.heap.size + 1, 0, none⟩ 1 1 [.int .u8 k, .int .i32 t, .int .i32 x] (by simp [Act.eval]) rfl (lit_news w _ k t x) (lit_one k t x) (by omega) (by unfold maxLen; omega) (by omega) (by simp; omega) (w.heap.size + 2) (by simp) ?_; intro g cap w1 ho1 hgr hat hlt; have e3 := far_do hgr lbs hvb 3; have e2 := far_do hgr lbs hvb 2; obtain ⟨e31, e32⟩ := e3; obtain ⟨e21, e22⟩ := e2; rw [hs3] at e31; rw [hf3] at e32; rw [hs2] at e21)
  all_goals go_wp2
  all_goals exact bodyPost_ret (v := .tuple #[]) (by simp [results, Try.results11]) rfl ⟨rfl, do_close lbs hvb hf3 hs3 ho1 hgr hat⟩
end Go.Proofs.Qxb6614111a
