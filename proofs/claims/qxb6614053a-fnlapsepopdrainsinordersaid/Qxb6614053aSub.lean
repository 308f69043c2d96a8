import Derived.Test.Qxb6614053aAdd
namespace Go.Proofs.Qxb6614053a
open Go.ChangeShapes Go.WideShapes Go.ChangeAt Go.RowKit
attribute [local go_sem] and_mask and_mono and_both andNot_zero or_zero

theorem sub_val (z : Int) (h0 : -9223372036854775808 ≤ z) (h1 : z ≤ 9223372036854775807) : wrap64 (wrap64 (z / 1000000000 * 1000000000) + z % 1000000000) = z := by unfold wrap64; omega
theorem bcell {W w1 : World} (hb : Below W.heap.size W w1) : (∀ b o, b < W.heap.size → w1.cell? ⟨b, o, none⟩ = W.cell? ⟨b, o, none⟩) :=
  fun b o h => hb.cell (p := ⟨b, o, none⟩) h
theorem below_d {w w1 : World} (hb : Below w.drew.heap.size w.drew w1) : Below w.heap.size w w1 := ((Below.refl _ _).drew).trans hb
theorem below_more {w wa w1 : World} (hB : Below w.heap.size w wa) (hb : Below wa.heap.size wa w1) : Below w.heap.size w w1 := hB.trans (hb.mono hB.size)

theorem below2 {w w1 : World} {a b : Obj} (hb : Below ((w.alloc a).alloc b).heap.size ((w.alloc a).alloc b) w1) : Below w.heap.size w w1 :=
  (((Below.refl _ _).alloc (Nat.le_refl _) a).alloc (by simp) b).trans (hb.mono (by simp; omega))

set_option maxHeartbeats 1000000 in
theorem sub_any (z : Int) (w : World) (h0 : -9223372036854775808 ≤ z) (h1 : z ≤ 9223372036854775807) :
    Calls Try.prog 22 #[.agg #[.int .u64 (z % 1000000000), .int .i64 (z / 1000000000), .pointer none], .agg #[.int .u64 0, .int .i64 0, .pointer none]] w
      fun e w' => e = .returned (.int .i64 z) ∧ Below w.heap.size w w' := by
  have hv := sub_val z h0 h1
  have hA := fun w => add_any z w h0 h1
  have HA : Hid (∀ w, Calls Try.prog 19 #[.agg #[.int .u64 0, .int .i64 0, .pointer none], .int .i64 z] w
      fun e w' => e = .returned (.agg #[.int .u64 (z % 1000000000), .int .i64 (z / 1000000000), .pointer none]) ∧ Below w.heap.size w w') := hA
  clear hA
  have x0 : 0 ≤ z % 1000000000 := by omega
  have x1 : z % 1000000000 < 1000000000 := by omega
  have y0 : -10000000000 ≤ z / 1000000000 := by omega
  have y1 : z / 1000000000 ≤ 10000000000 := by omega
  obtain ⟨x, hx⟩ : ∃ x, z % 1000000000 = x := ⟨_, rfl⟩
  obtain ⟨y, hy⟩ : ∃ y, z / 1000000000 = y := ⟨_, rfl⟩
  rw [hx] at hv HA x0 x1 ⊢
  rw [hy] at hv HA y0 y1 ⊢
  clear hx hy h0 h1
  go_enter Try.func22, Try.ntmps22
  go_wp2_with (first | (go_at_call 26; go_in) | (go_at_call 32; go_in))
  go_region_held3 (fun u => ∀ b o, b < w.heap.size + 1 + 1 → u.cell? ⟨b, o, none⟩ = ((w.alloc (.cells #[.int .u64 x, .int .i64 y, .pointer none] 51)).alloc (.cells #[.int .u64 0, .int .i64 0, .pointer none] 51)).cell? ⟨b, o, none⟩)
    (first | exact fun b o h => rfl | exact hc1 | exact hc2)
    (first
    | (go_at_call 19; refine (HA.out _).mono ?_; rintro e w1 ⟨rfl, hb⟩; have hB1 := below_d hb; clear hb; have hc1 := bcell hB1; simp at hc1)
    | (go_at_call 33; refine (equal_any x y _ x0 x1).mono ?_; rintro e w2 ⟨rfl, hb⟩; have hB2 := below_more hB1 hb; clear hb; have hc2 := bcell hB2; simp at hc2))
  go_wp2
  go_ret
  exact ⟨rfl, below2 hB2⟩
end Go.Proofs.Qxb6614053a
