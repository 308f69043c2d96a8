import Derived.Test.Qxb6608913aRows
import Derived.WalkKit
import Derived.ProofKit
import Derived.OpenShut
namespace Go.Proofs.Qxb6608913a
open Go.ChangeShapes Go.WideShapes Go.ChangeAt Go.RowKit

def partB (t n : Int) : Bool := decide (0 < t) && decide (0 < n) && decide (n ≤ t)

theorem ret_bool {a b : Bool} (h : a = b) : Ending.returned (.bool a) = .returned (.bool b) := by rw [h]

set_option maxHeartbeats 400000 in
theorem isPart_any (r t n : Int) (w : World) :
    Calls Try.prog 5 #[.agg #[.int .u16 r, .int .i64 t, .int .i64 n]] w fun e w' => e = .returned (.bool (partB t n)) ∧ w' = w.alloc (.cells #[.int .u16 r, .int .i64 t, .int .i64 n] 24) := by
  by_cases h1 : 0 < t
  · by_cases h2 : 0 < n
    · by_cases h3 : n ≤ t
      · go_enter Try.func5, Try.ntmps5
        go_wp2
        go_ret
        exact ⟨ret_bool (by simp [partB]; omega), rfl⟩
      · go_enter Try.func5, Try.ntmps5
        go_wp2
        go_ret
        exact ⟨ret_bool (by simp [partB]; omega), rfl⟩
    · go_enter Try.func5, Try.ntmps5
      go_wp2
      go_ret
      exact ⟨ret_bool (by simp [partB]; omega), rfl⟩
  · go_enter Try.func5, Try.ntmps5
    go_wp2
    go_ret
    exact ⟨ret_bool (by simp [partB]; omega), rfl⟩
theorem part_yes {t n : Int} (h : 0 < n ∧ n ≤ t) : partB t n = true := by simp [partB]; omega
theorem part_no {t n : Int} (h : n ≤ 0 ∨ t < n ∨ t ≤ 0) : partB t n = false := by simp [partB]; omega
theorem isPart_yes (r t n : Int) (w : World) (h : 0 < n ∧ n ≤ t) :
    Calls Try.prog 5 #[.agg #[.int .u16 r, .int .i64 t, .int .i64 n]] w fun e w' => e = .returned (.bool true) ∧ w' = w.alloc (.cells #[.int .u16 r, .int .i64 t, .int .i64 n] 24) := by
  rw [← part_yes h]; exact isPart_any r t n w
theorem isPart_no (r t n : Int) (w : World) (h : n ≤ 0 ∨ t < n ∨ t ≤ 0) :
    Calls Try.prog 5 #[.agg #[.int .u16 r, .int .i64 t, .int .i64 n]] w fun e w' => e = .returned (.bool false) ∧ w' = w.alloc (.cells #[.int .u16 r, .int .i64 t, .int .i64 n] 24) := by
  rw [← part_no h]; exact isPart_any r t n w
end Go.Proofs.Qxb6608913a
