import Derived.Test.Qxb6614053aTime
namespace Go.Proofs.Qxb6614053a
open Go.ChangeShapes Go.WideShapes Go.ChangeAt Go.RowKit
attribute [local go_sem] and_mask and_mono and_both andNot_zero or_zero

theorem tdm (z : Int) (h0 : z < 0) : z = z.tdiv 1000000000 * 1000000000 + z.tmod 1000000000 ∧ -1000000000 < z.tmod 1000000000 ∧ z.tmod 1000000000 ≤ 0 ∧ z.tdiv 1000000000 = z / 1000000000 + (if z % 1000000000 = 0 then 0 else 1) := by
  have h1 := Int.tmod_add_mul_tdiv z 1000000000
  have h2 : z.tmod 1000000000 = -((-z) % 1000000000) := by
    rw [← Int.tmod_eq_emod_of_nonneg (by omega), Int.neg_tmod, Int.neg_neg]
  rw [h2] at h1 ⊢
  split <;> omega

set_option maxHeartbeats 1000000 in
theorem add_pos (z : Int) (w : World) (h0 : 0 ≤ z) (h1 : z ≤ 9223372036854775807) :
    Calls Try.prog 19 #[.agg #[.int .u64 0, .int .i64 0, .pointer none], .int .i64 z] w
      fun e w' => e = .returned (.agg #[.int .u64 (z % 1000000000), .int .i64 (z / 1000000000), .pointer none]) ∧ Below w.heap.size w w' := by
  go_enter Try.func19, Try.ntmps19
  go_wp2_with (first
    | (go_at_call 26; refine (nsec_any _ _ 0 _ (by omega) (by omega) (by go_simp)).mono ?_; rintro e w1 ⟨rfl, hw⟩; obtain rfl := hw.symm)
    | (go_at_call 27; refine (addSec_zero _ (z % 1000000000) (z / 1000000000) _ (by omega) (by omega) (by omega) (by omega) (by go_simp) (by go_simp) (by go_simp)).mono ?_; rintro e w1 ⟨rfl, rfl⟩))
  refine bodyPost_ret (v := .agg #[.int .u64 (z % 1000000000), .int .i64 (z / 1000000000), .pointer none]) (by simp [results, Try.results19, go_sem]) rfl ⟨rfl, ?_⟩
  exact ((Below.refl _ _).alloc (Nat.le_refl _) _).alloc (by simp) _

theorem neg_parts (z : Int) (h0 : z < 0) (h1 : -9223372036854775808 ≤ z) : ∃ q r : Int, z.tdiv 1000000000 = q ∧ z.tmod 1000000000 = r ∧ -1000000000 < r ∧ r ≤ 0 ∧ -9223372037 ≤ q ∧ q ≤ 0 ∧
    (r < 0 → z % 1000000000 = r + 1000000000 ∧ z / 1000000000 = q - 1) ∧ (r = 0 → z % 1000000000 = 0 ∧ z / 1000000000 = q) := by
  obtain ⟨a, b, c, d⟩ := tdm z h0
  refine ⟨_, _, rfl, rfl, b, c, ?_, ?_, ?_, ?_⟩
  · omega
  · omega
  · intro hr; omega
  · intro hr; omega

set_option maxHeartbeats 1000000 in
theorem add_neg (z : Int) (w : World) (h0 : z < 0) (h1 : -9223372036854775808 ≤ z) :
    Calls Try.prog 19 #[.agg #[.int .u64 0, .int .i64 0, .pointer none], .int .i64 z] w
      fun e w' => e = .returned (.agg #[.int .u64 (z % 1000000000), .int .i64 (z / 1000000000), .pointer none]) ∧ Below w.heap.size w w' := by
  obtain ⟨q, r, hq, hr, b1, b2, b3, b4, f1, f2⟩ := neg_parts z h0 h1
  by_cases c : r < 0
  · obtain ⟨e1, e2⟩ := f1 c
    obtain ⟨s, hs⟩ : ∃ s, r + 1000000000 = s := ⟨_, rfl⟩
    obtain ⟨p, hp⟩ : ∃ p, q - 1 = p := ⟨_, rfl⟩
    rw [hs] at e1
    rw [hp] at e2
    rw [e1, e2]
    have s0 : 0 ≤ s := by omega
    have s1 : s < 1000000000 := by omega
    have p0 : -10000000000 ≤ p := by omega
    have p1 : p ≤ 10000000000 := by omega
    clear f1 f2 e1 e2
    go_enter Try.func19, Try.ntmps19
    go_wp2_with (first
      | (go_at_call 26; refine (nsec_any _ _ 0 _ (by omega) (by omega) (by go_simp)).mono ?_; rintro e w1 ⟨rfl, hw⟩; obtain rfl := hw.symm)
      | (go_at_call 27; refine (addSec_zero _ s p _ (by omega) (by omega) (by omega) (by omega) (by go_simp) (by go_simp) (by go_simp)).mono ?_; rintro e w1 ⟨rfl, rfl⟩))
    refine bodyPost_ret (v := .agg #[.int .u64 s, .int .i64 p, .pointer none]) (by simp [results, Try.results19, go_sem]) rfl ⟨rfl, ?_⟩
    exact ((Below.refl _ _).alloc (Nat.le_refl _) _).alloc (by simp) _
  · obtain rfl : r = 0 := by omega
    obtain ⟨e1, e2⟩ := f2 rfl
    rw [e1, e2]
    clear f1 f2 e1 e2
    go_enter Try.func19, Try.ntmps19
    go_wp2_with (first
      | (go_at_call 26; refine (nsec_any _ _ 0 _ (by omega) (by omega) (by go_simp)).mono ?_; rintro e w1 ⟨rfl, hw⟩; obtain rfl := hw.symm)
      | (go_at_call 27; refine (addSec_zero _ 0 q _ (by omega) (by omega) (by omega) (by omega) (by go_simp) (by go_simp) (by go_simp)).mono ?_; rintro e w1 ⟨rfl, rfl⟩))
    refine bodyPost_ret (v := .agg #[.int .u64 0, .int .i64 q, .pointer none]) (by simp [results, Try.results19, go_sem]) rfl ⟨rfl, ?_⟩
    exact ((Below.refl _ _).alloc (Nat.le_refl _) _).alloc (by simp) _

theorem add_any (z : Int) (w : World) (h0 : -9223372036854775808 ≤ z) (h1 : z ≤ 9223372036854775807) :
    Calls Try.prog 19 #[.agg #[.int .u64 0, .int .i64 0, .pointer none], .int .i64 z] w
      fun e w' => e = .returned (.agg #[.int .u64 (z % 1000000000), .int .i64 (z / 1000000000), .pointer none]) ∧ Below w.heap.size w w' := by
  by_cases h : z < 0
  · exact add_neg z w h h0
  · exact add_pos z w (by omega) h1
end Go.Proofs.Qxb6614053a
