/- The proof of one given statement; the frame was written by the proof-skeleton tool, the walk by hand. -/
import Derived.Test.Qxb6608913aRows
import Derived.Test.Qxb6608913aWalks
import Derived.WalkKit
import Derived.ProofKit
import Derived.OpenShut
import Derived.ShutString
namespace Go.Proofs.Qxb6608913a.fnIsPartCountsExactlyTotalParts
open Go.ChangeShapes Go.WideShapes Go.ChangeAt Go.RowKit
open Go.ChangeMaps (open_string shut_string)
set_option linter.unusedVariables false      -- a walk need not use every 'w<i>' (that an integer argument fits its kind)

theorem own : ownKnob Try.prog.godebug = none := by kernel_rfl

/-- how many of the numbers below k (from 1 on) number a part of t -/
def cnt (t k : Int) : Int := if k ≤ 1 then 0 else if k ≤ t + 1 then k - 1 else t

theorem cnt_bd (t k : Int) : cnt t k ≤ k.natAbs + t.natAbs ∧ - (k.natAbs + t.natAbs : Int) ≤ cnt t k := by unfold cnt; split <;> (try split) <;> omega
theorem cnt_in {t k : Int} (h : 0 < k ∧ k ≤ t) : cnt t (k + 1) = cnt t k + 1 := by unfold cnt; repeat (first | omega | split)
theorem cnt_out {t k : Int} (h : ¬ (0 < k ∧ k ≤ t)) (hp : 0 < t) : cnt t (k + 1) = cnt t k := by unfold cnt; repeat (first | omega | split)
theorem cnt_end {t : Int} (h : 0 < t) : cnt t (t + 3) = t := by unfold cnt; repeat (first | omega | split)

/-! ### STEP 1: THE WALK: the Go text returns true. 'Grown w w'': the world has at most new blocks (Derived/RowKit3.lean). Part the cases AHEAD of 'go_enter' where a test parts the walk; take each callee by a contract of your own. -/
theorem walk (a0 : Int) (a1 : Int) (w0 : (Lit.int .u16 a0).wf = true) (w1 : (Lit.int .i64 a1).wf = true) (w : World) :
    Calls Try.prog 3 #[.int .u16 a0, .int .i64 a1] w fun e w' => e = .returned (.bool true) ∧ Grown w w' := by
  have b1 := bounds_i64 w1
  clear w0 w1
  by_cases h0 : 65536 < a1
  · go_enter Try.func3, Try.ntmps3
    go_wp2
    go_ret
    exact ⟨rfl, by repeat (first | exact Grown.refl _ | apply Grown.drew | apply Grown.alloc)⟩
  · by_cases hp : 0 < a1
    · go_enter Try.func3, Try.ntmps3
      go_wp2
      go_loopw [6, 7] (fun c n w' => ∃ k : Int, -2 ≤ k ∧ k ≤ a1 + 3 ∧ n = .int .i64 k ∧ c = .int .i64 (cnt a1 k) ∧ Grown w w') (fun _ n _ => (a1 + 3 - intOf n).toNat)
      case atStart => exact ⟨-2, by omega, by omega, rfl, by simp [cnt], Grown.refl _⟩
      case round =>
        obtain ⟨k, hk1, hk2, rfl, rfl, hg⟩ := hrel
        have hc := cnt_bd a1 k
        by_cases hk : k ≤ a1 + 2
        · by_cases hin : 0 < k ∧ k ≤ a1
          · have hs : Hid (cnt a1 (k + 1) = cnt a1 k + 1) := cnt_in hin
            go_wp2_with (go_at_call 5; refine (isPart_yes _ _ _ _ (by omega)).mono ?_; rintro e w' ⟨rfl, rfl⟩)
            go_roundw
            case rel => exact ⟨k + 1, by omega, by omega, rfl, by rw [hs.out], by repeat (first | exact hg | apply Grown.drew | apply Grown.alloc)⟩
            case measure => simp [intOf]; omega
          · have hs : Hid (cnt a1 (k + 1) = cnt a1 k) := cnt_out hin hp
            have hin' : k ≤ 0 ∨ a1 < k ∨ a1 ≤ 0 := by omega
            clear hin
            go_wp2_with (go_at_call 5; refine (isPart_no _ _ _ _ (by omega)).mono ?_; rintro e w' ⟨rfl, rfl⟩)
            go_roundw
            case rel => exact ⟨k + 1, by omega, by omega, rfl, by rw [hs.out], by repeat (first | exact hg | apply Grown.drew | apply Grown.alloc)⟩
            case measure => simp [intOf]; omega
        · obtain rfl : k = a1 + 3 := by omega
          have he : Hid (cnt a1 (a1 + 3) = a1) := cnt_end hp
          go_wp2_with (go_at_call 5; refine (isPart_no _ _ _ _ (by omega)).mono ?_; rintro e w' ⟨rfl, rfl⟩)
          go_ret
          exact ⟨ret_bool (by simp), by repeat (first | exact hg | apply Grown.drew | apply Grown.alloc)⟩
    · go_enter Try.func3, Try.ntmps3
      go_wp2
      go_loopw [6, 7] (fun c n w' => ∃ k : Int, -2 ≤ k ∧ k ≤ 3 ∧ n = .int .i64 k ∧ c = .int .i64 0 ∧ Grown w w') (fun _ n _ => (3 - intOf n).toNat)
      case atStart => exact ⟨-2, by omega, by omega, rfl, rfl, Grown.refl _⟩
      case round =>
        obtain ⟨k, hk1, hk2, rfl, rfl, hg⟩ := hrel
        by_cases hk : k ≤ 2
        · go_wp2_with (go_at_call 5; refine (isPart_no _ _ _ _ (by omega)).mono ?_; rintro e w' ⟨rfl, rfl⟩)
          go_roundw
          case rel => exact ⟨k + 1, by omega, by omega, rfl, rfl, by repeat (first | exact hg | apply Grown.drew | apply Grown.alloc)⟩
          case measure => simp [intOf]; omega
        · go_wp2_with (go_at_call 5; refine (isPart_no _ _ _ _ (by omega)).mono ?_; rintro e w' ⟨rfl, rfl⟩)
          go_ret
          exact ⟨ret_bool (by simp), by repeat (first | exact hg | apply Grown.drew | apply Grown.alloc)⟩

/-! ### THE ROW's STEP: WRITTEN OUT: LEAVE IT -/
set_option maxRecDepth 100000 in
theorem lifted (os : Os) (started : os.Started) (H : Type) (enc : TypeId × Value → H) :
    ReturnsInHanded {} Try.checked os 3 .any (Rows.fnIsPartCountsExactlyTotalPartsSpec.pre6 enc Try.prog Try.f3 Rows.fnIsPartCountsExactlyTotalPartsRow.domain false) (Rows.fnIsPartCountsExactlyTotalPartsSpec.post enc Try.prog Try.f3 false true false false) := by
  refine returnsInHanded_of_change (C := Try.checked) own started (by kernel_rfl) Try.func3
    (ChangeSpec.witness6 (enc := enc) (C := Try.checked) false ⟨#[], #[.int .u16 0, .int .i64 0], []⟩ 8 (by kernel_rfl) (by kernel_rfl) (by kernel_rfl) (by kernel_rfl)) ?_
  intro W base args ds gs before hval0 hW hcnd _
  have hval : ∀ (j : Nat) t v, Try.f3.params[j]? = some t → args[j]? = some v → Value.okWide Try.prog W .any base t v := hval0
  have hW' := hW
  obtain ⟨p, q, hA0, hV, rfl, hfz, hnd⟩ := hW
  have hA : DataW.TrodAll enc Try.prog W 0 (fun _ => true) true Try.f3.params.toList args.toList ds p := hA0
  rw [Try.params3] at hA hval
  obtain ⟨v0, vs0, d0, ds0, p0, q0, hargs, rfl, rfl, h0, r0⟩ := trodAll_cons hA
  obtain ⟨v1, vs1, d1, ds1, p1, q1, rfl, rfl, rfl, h1, r1⟩ := trodAll_cons r0
  obtain ⟨rfl, rfl, rfl⟩ := trodAll_nil r1
  obtain rfl : args = #[v0, v1] := by cases args; simp_all
  obtain ⟨rfl, rfl⟩ := trodVars_none hV
  obtain ⟨a0, rfl, rfl, rfl, w0⟩ := open_int Try.underlying22 (hval 0 22 v0 rfl rfl) h0
  obtain ⟨a1, rfl, rfl, rfl, w1⟩ := open_int Try.underlying3 (hval 1 3 v1 rfl rfl) h1
  clear hA0 hval0
  simp only [List.append_nil] at hW'
  refine (walk a0 a1 w0 w1 W).mono fun e W' ⟨he, hg⟩ => ?_
  subst he
  exact ⟨_, rfl, post_of_same (pa := []) (pv := []) hW' (fun _ _ _ => (trodAll_cons_mk (shut_bool Try.underlying4 _) trodAll_mk0)) (fun sp _ => (trodAll_cons_mk (shut_int Try.underlying22 w0) (trodAll_cons_mk (shut_int Try.underlying3 w1) trodAll_mk0))) (fun _ _ => rfl) rfl
    (hg.frame _) hg.2.1 (ok_one (by kernel_rfl) rfl (okWide_bool_mk Try.underlying4 _))⟩

theorem over : Rows.fnIsPartCountsExactlyTotalPartsRow.holds Try.pinned (OpenSpec.ofChange Rows.fnIsPartCountsExactlyTotalPartsSpec) :=
  OpenClaim.holds_of_wide 3 Try.f3 rfl rfl rfl rfl rfl rfl rfl ⟨rfl, rfl, rfl, rfl, rfl⟩ rfl rfl rfl rfl rfl (by kernel_rfl) Try.func3 (by kernel_rfl)
    (of_decide_eq_true (by kernel_rfl)) (by unfold Func.isWrapper; first | (rw [if_pos (by decide +kernel)]; kernel_rfl) | (rw [if_neg (by decide +kernel)]; exact ⟨rfl, rfl⟩))
    (fun os started H enc _ => lifted os started H enc)

/-- ████ THE STATEMENT ████ -/
theorem proved : Rows.FnIsPartCountsExactlyTotalPartsSaid :=
  over
#print axioms proved
end Go.Proofs.Qxb6608913a.fnIsPartCountsExactlyTotalParts
