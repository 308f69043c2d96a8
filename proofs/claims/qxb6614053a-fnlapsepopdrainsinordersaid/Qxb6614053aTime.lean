import Derived.Test.Qxb6614053aRows
import Derived.Test.Qxb6614053aBits
import Derived.WalkKit
import Derived.ProofKit
import Derived.WalkSpells
import Derived.Deep.RegionHeld3
import Derived.Deep.QuietTactic
import Derived.BigQuiet
import Derived.WalkSmall
namespace Go.Proofs.Qxb6614053a
open Go.ChangeShapes Go.WideShapes Go.ChangeAt Go.RowKit
attribute [local go_sem] and_mask and_mono and_both andNot_zero or_zero

theorem ret_int {k : IntKind} {a b : Int} (h : a = b) : Ending.returned (.int k a) = .returned (.int k b) := by rw [h]
theorem w32 (x : Int) (h0 : 0 ≤ x) (h1 : x < 1000000000) : wrap32 x = x := by unfold wrap32; omega

set_option maxHeartbeats 400000 in
theorem nsec_any (b o : Nat) (x : Int) (w : World) (h0 : 0 ≤ x) (h1 : x < 1000000000) (hc : w.cell? ⟨b, o, none⟩ = some (.int .u64 x)) :
    Calls Try.prog 26 #[.pointer (some ⟨b, o, none⟩)] w fun e w' => e = .returned (.int .i32 x) ∧ w' = w := by
  go_enter Try.func26, Try.ntmps26
  go_wp2
  go_ret
  exact ⟨rfl, rfl⟩
set_option maxHeartbeats 400000 in
theorem sec_any (b o : Nat) (x y : Int) (w : World) (h0 : 0 ≤ x) (h1 : x < 1000000000) (hc : w.cell? ⟨b, o, none⟩ = some (.int .u64 x)) (hd : w.cell? ⟨b, o + 1, none⟩ = some (.int .i64 y)) :
    Calls Try.prog 32 #[.pointer (some ⟨b, o, none⟩)] w fun e w' => e = .returned (.int .i64 y) ∧ w' = w := by
  go_enter Try.func32, Try.ntmps32
  go_wp2
  go_ret
  exact ⟨rfl, rfl⟩

/-- the time that is z nanoseconds behind the zero time -/
def tm (z : Int) : Value := .agg #[.int .u64 (z % 1000000000), .int .i64 (z / 1000000000), .pointer none]

theorem ret_bool {a b : Bool} (h : a = b) : Ending.returned (.bool a) = .returned (.bool b) := by rw [h]

set_option maxHeartbeats 400000 in
theorem before_any (x1 y1 x2 y2 : Int) (w : World) (h1 : 0 ≤ x1) (h2 : x1 < 1000000000) (h3 : 0 ≤ x2) (h4 : x2 < 1000000000) :
    Calls Try.prog 34 #[.agg #[.int .u64 x1, .int .i64 y1, .pointer none], .agg #[.int .u64 x2, .int .i64 y2, .pointer none]] w
      fun e w' => e = .returned (.bool (decide (y1 < y2 ∨ (y1 = y2 ∧ x1 < x2)))) ∧ Below w.heap.size w w' := by
  by_cases c1 : y1 < y2
  · go_enter Try.func34, Try.ntmps34
    go_wp2
    go_ret
    exact ⟨ret_bool (by simp; omega), ((Below.refl _ _).alloc (Nat.le_refl _) _).alloc (by simp) _⟩
  · by_cases c2 : y1 = y2
    · subst c2
      go_enter Try.func34, Try.ntmps34
      go_wp2
      go_ret
      exact ⟨ret_bool (by simp), ((Below.refl _ _).alloc (Nat.le_refl _) _).alloc (by simp) _⟩
    · have c3 : (y1 == y2) = false := by simpa using c2
      go_enter Try.func34, Try.ntmps34
      go_wp2
      go_ret
      exact ⟨ret_bool (by simp; omega), ((Below.refl _ _).alloc (Nat.le_refl _) _).alloc (by simp) _⟩

set_option maxHeartbeats 400000 in
theorem equal_any (x y : Int) (w : World) (h1 : 0 ≤ x) (h2 : x < 1000000000) :
    Calls Try.prog 33 #[.agg #[.int .u64 x, .int .i64 y, .pointer none], .agg #[.int .u64 x, .int .i64 y, .pointer none]] w
      fun e w' => e = .returned (.bool true) ∧ Below w.heap.size w w' := by
  go_enter Try.func33, Try.ntmps33
  go_wp2
  go_ret
  exact ⟨ret_bool (by simp), ((Below.refl _ _).alloc (Nat.le_refl _) _).alloc (by simp) _⟩

/-- addSec at a time without a monotonic reading whose seconds are 0 -/
theorem addSec_zero (b : Nat) (x d : Int) (w : World) (h1 : 0 ≤ x) (h2 : x < 1000000000) (hd1 : -10000000000 ≤ d) (hd2 : d ≤ 10000000000)
    (hc : w.cell? ⟨b, 0, none⟩ = some (.int .u64 x)) (hc1 : w.cell? ⟨b, 1, none⟩ = some (.int .i64 0)) (hf : w.frozen? ⟨b, 1, none⟩ = false) :
    Calls Try.prog 27 #[.pointer (some ⟨b, 0, none⟩), .int .i64 d] w fun e w' => e = .returned (.tuple #[]) ∧ w' = w.setCell ⟨b, 1, none⟩ (.int .i64 d) := by
  by_cases c : 0 < d
  · go_enter Try.func27, Try.ntmps27
    go_wp2
    go_end0
    exact ⟨rfl, rfl⟩
  · go_enter Try.func27, Try.ntmps27
    go_wp2
    go_end0
    exact ⟨rfl, rfl⟩
end Go.Proofs.Qxb6614053a
