import Derived.Test.Qxb6614053aUp
namespace Go.Proofs.Qxb6614053a
open Go.ChangeShapes Go.WideShapes Go.ChangeAt Go.RowKit
attribute [local go_sem] m_less m_swap m_len m_push m_pop

theorem kids {c k : Nat} (h0 : 0 < c) (h : (c - 1) / 2 = k) : c = 2 * k + 1 ∨ c = 2 * k + 2 := by omega
theorem stop_of {v : Nat → Int} {a : Nat → Nat} {m k j : Nat} (h : DownTo v a m k) (hmin : ∀ c, 0 < c → c < m → (c - 1) / 2 = k → v (a j) ≤ v (a c)) (hl : ¬ v (a j) < v (a k)) : Heap v a m :=
  down_stop h (fun c h0 hc hp => by have := hmin c h0 hc hp; omega)

set_option maxHeartbeats 4000000 in
set_option maxRecDepth 100000 in
theorem down_any (bq gp np cp N m : Nat) (PB PL PC : Nat → Nat) (Z : Nat → Int) (a : Nat → Nat) (w : World) (q : QS w w bq gp np cp N PB PL PC Z a) (hm : m < N) (hN : N ≤ 65536) (hd : DownTo Z a m 0) :
    Calls Try.prog 36 #[.iface 24 (.pointer (some ⟨bq, 0, none⟩)), .int .i64 0, .int .i64 m] w fun e w' => (∃ b, e = .returned (.bool b)) ∧ ∃ a', QS w w' bq gp np cp N PB PL PC Z a' ∧ Same a a' m ∧ a' m = a m ∧ Heap Z a' m := by
  go_enter Try.func36, Try.ntmps36
  go_wp2
  go_loopw [7] (fun x wr => ∃ k a', x = .int .i64 (k : Nat) ∧ (k < m ∨ k = 0) ∧ QS w wr bq gp np cp N PB PL PC Z a' ∧ Same a a' m ∧ a' m = a m ∧ DownTo Z a' m k) (fun x _ => N - (intOf x).toNat)
  case atStart => exact ⟨0, a, rfl, .inr rfl, q, Same.refl _ _, rfl, hd⟩
  case round =>
    obtain ⟨k, a', rfl, hk, qk, hs, hlast, hdk⟩ := hrel
    clear q hd
    have HQ : Hid (QS w wr bq gp np cp N PB PL PC Z a') := qk
    have HD : Hid (DownTo Z a' m k) := hdk
    clear qk hdk
    by_cases c1 : 2 * k + 1 < m
    · obtain ⟨x1, hx1⟩ : ∃ x1, 2 * k + 1 = x1 := ⟨_, rfl⟩
      obtain ⟨x2, hx2⟩ : ∃ x2, x1 + 1 = x2 := ⟨_, rfl⟩
      have e1 : 2 * (k : Int) + 1 = (x1 : Int) := by omega
      have e2 : (x1 : Int) + 1 = (x2 : Int) := by omega
      have l1 : (x1 : Int) < (m : Int) := by omega
      have b1 : x1 ≤ 65536 := by omega
      have bk : k ≤ 65536 := by omega
      by_cases c2 : x2 < m
      · have l2 : (x2 : Int) < (m : Int) := by omega
        by_cases c3 : Z (a' x2) < Z (a' x1)
        · have hmin : ∀ c, 0 < c → c < m → (c - 1) / 2 = k → Z (a' x2) ≤ Z (a' c) := fun c h0 hc hp => by
            rcases kids h0 hp with e | e
            · have : c = x1 := by omega
              subst this; omega
            · have : c = x2 := by omega
              subst this; omega
          have L2 : Hid (∀ x, QS w x bq gp np cp N PB PL PC Z a' → Calls Try.prog 53 #[.pointer (some ⟨bq, 0, none⟩), .int .i64 (x2 : Nat), .int .i64 (x1 : Nat)] x fun e w' => e = .returned (.bool true) ∧ QS w w' bq gp np cp N PB PL PC Z a') := fun x qx => less_qs qx x2 x1 (by omega) (by omega) true (by simpa using c3)
          clear c3
          by_cases cf : Z (a' x2) < Z (a' k)
          · have LF : Hid (∀ x, QS w x bq gp np cp N PB PL PC Z a' → Calls Try.prog 53 #[.pointer (some ⟨bq, 0, none⟩), .int .i64 (x2 : Nat), .int .i64 (k : Nat)] x fun e w' => e = .returned (.bool true) ∧ QS w w' bq gp np cp N PB PL PC Z a') := fun x qx => less_qs qx x2 k (by omega) (by omega) true (by simpa using cf)
            have HW : Hid (∀ x, QS w x bq gp np cp N PB PL PC Z a' → Calls Try.prog 56 #[.pointer (some ⟨bq, 0, none⟩), .int .i64 (k : Nat), .int .i64 (x2 : Nat)] x fun e w' => e = .returned (.tuple #[]) ∧ QS w w' bq gp np cp N PB PL PC Z (swp a' k x2)) := fun x qx => swap_qs qx k x2 (by omega) (by omega)
            have HN : Hid (DownTo Z (swp a' k x2) m x2) := down_step HD.out (by omega) (by omega) (by omega) hmin cf
            have hs2 := hs.trans (swp_same a' (m := m) (i := k) (j := x2) (by omega) (by omega))
            have hl2 : swp a' k x2 m = a m := by rw [swp_o a' (by omega) (by omega)]; exact hlast
            clear cf hmin HD hs hlast
            go_wp2_with (first | (go_at_call_of 53 k; refine (LF.out _ HQX.out).mono ?_; rintro e wf ⟨rfl, q1⟩; have HQF : Hid (QS w wf bq gp np cp N PB PL PC Z a') := q1; clear q1) | (go_at_call 53; refine (L2.out _ HQ.out).mono ?_; rintro e wx ⟨rfl, q1⟩; have HQX : Hid (QS w wx bq gp np cp N PB PL PC Z a') := q1; clear q1) | (go_at_call 56; refine (HW.out _ HQF.out).mono ?_; rintro e ws ⟨rfl, q1⟩; have HQS : Hid (QS w ws bq gp np cp N PB PL PC Z (swp a' k x2)) := q1; clear q1))
            go_roundw
            case rel => exact ⟨x2, swp a' k x2, rfl, .inl (by omega), HQS.out, hs2, hl2, HN.out⟩
            case measure => simp [intOf]; omega
          · have LF : Hid (∀ x, QS w x bq gp np cp N PB PL PC Z a' → Calls Try.prog 53 #[.pointer (some ⟨bq, 0, none⟩), .int .i64 (x2 : Nat), .int .i64 (k : Nat)] x fun e w' => e = .returned (.bool false) ∧ QS w w' bq gp np cp N PB PL PC Z a') := fun x qx => less_qs qx x2 k (by omega) (by omega) false (by simpa using cf)
            have HH : Hid (Heap Z a' m) := stop_of HD.out hmin cf
            clear cf hmin HD
            go_wp2_with (first | (go_at_call_of 53 k; refine (LF.out _ HQX.out).mono ?_; rintro e wf ⟨rfl, q1⟩; have HQF : Hid (QS w wf bq gp np cp N PB PL PC Z a') := q1; clear q1) | (go_at_call 53; refine (L2.out _ HQ.out).mono ?_; rintro e wx ⟨rfl, q1⟩; have HQX : Hid (QS w wx bq gp np cp N PB PL PC Z a') := q1; clear q1))
            go_ret
            exact ⟨⟨_, rfl⟩, a', HQF.out, hs, hlast, HH.out⟩
        · have hmin : ∀ c, 0 < c → c < m → (c - 1) / 2 = k → Z (a' x1) ≤ Z (a' c) := fun c h0 hc hp => by
            rcases kids h0 hp with e | e
            · have : c = x1 := by omega
              subst this; omega
            · have : c = x2 := by omega
              subst this; omega
          have L2 : Hid (∀ x, QS w x bq gp np cp N PB PL PC Z a' → Calls Try.prog 53 #[.pointer (some ⟨bq, 0, none⟩), .int .i64 (x2 : Nat), .int .i64 (x1 : Nat)] x fun e w' => e = .returned (.bool false) ∧ QS w w' bq gp np cp N PB PL PC Z a') := fun x qx => less_qs qx x2 x1 (by omega) (by omega) false (by simpa using c3)
          clear c3
          by_cases cf : Z (a' x1) < Z (a' k)
          · have LF : Hid (∀ x, QS w x bq gp np cp N PB PL PC Z a' → Calls Try.prog 53 #[.pointer (some ⟨bq, 0, none⟩), .int .i64 (x1 : Nat), .int .i64 (k : Nat)] x fun e w' => e = .returned (.bool true) ∧ QS w w' bq gp np cp N PB PL PC Z a') := fun x qx => less_qs qx x1 k (by omega) (by omega) true (by simpa using cf)
            have HW : Hid (∀ x, QS w x bq gp np cp N PB PL PC Z a' → Calls Try.prog 56 #[.pointer (some ⟨bq, 0, none⟩), .int .i64 (k : Nat), .int .i64 (x1 : Nat)] x fun e w' => e = .returned (.tuple #[]) ∧ QS w w' bq gp np cp N PB PL PC Z (swp a' k x1)) := fun x qx => swap_qs qx k x1 (by omega) (by omega)
            have HN : Hid (DownTo Z (swp a' k x1) m x1) := down_step HD.out (by omega) (by omega) (by omega) hmin cf
            have hs2 := hs.trans (swp_same a' (m := m) (i := k) (j := x1) (by omega) (by omega))
            have hl2 : swp a' k x1 m = a m := by rw [swp_o a' (by omega) (by omega)]; exact hlast
            clear cf hmin HD hs hlast
            go_wp2_with (first | (go_at_call_of 53 k; refine (LF.out _ HQX.out).mono ?_; rintro e wf ⟨rfl, q1⟩; have HQF : Hid (QS w wf bq gp np cp N PB PL PC Z a') := q1; clear q1) | (go_at_call 53; refine (L2.out _ HQ.out).mono ?_; rintro e wx ⟨rfl, q1⟩; have HQX : Hid (QS w wx bq gp np cp N PB PL PC Z a') := q1; clear q1) | (go_at_call 56; refine (HW.out _ HQF.out).mono ?_; rintro e ws ⟨rfl, q1⟩; have HQS : Hid (QS w ws bq gp np cp N PB PL PC Z (swp a' k x1)) := q1; clear q1))
            go_roundw
            case rel => exact ⟨x1, swp a' k x1, rfl, .inl (by omega), HQS.out, hs2, hl2, HN.out⟩
            case measure => simp [intOf]; omega
          · have LF : Hid (∀ x, QS w x bq gp np cp N PB PL PC Z a' → Calls Try.prog 53 #[.pointer (some ⟨bq, 0, none⟩), .int .i64 (x1 : Nat), .int .i64 (k : Nat)] x fun e w' => e = .returned (.bool false) ∧ QS w w' bq gp np cp N PB PL PC Z a') := fun x qx => less_qs qx x1 k (by omega) (by omega) false (by simpa using cf)
            have HH : Hid (Heap Z a' m) := stop_of HD.out hmin cf
            clear cf hmin HD
            go_wp2_with (first | (go_at_call_of 53 k; refine (LF.out _ HQX.out).mono ?_; rintro e wf ⟨rfl, q1⟩; have HQF : Hid (QS w wf bq gp np cp N PB PL PC Z a') := q1; clear q1) | (go_at_call 53; refine (L2.out _ HQ.out).mono ?_; rintro e wx ⟨rfl, q1⟩; have HQX : Hid (QS w wx bq gp np cp N PB PL PC Z a') := q1; clear q1))
            go_ret
            exact ⟨⟨_, rfl⟩, a', HQF.out, hs, hlast, HH.out⟩
      · have l2 : (m : Int) ≤ (x2 : Int) := by omega
        have hmin : ∀ c, 0 < c → c < m → (c - 1) / 2 = k → Z (a' x1) ≤ Z (a' c) := fun c h0 hc hp => by
          rcases kids h0 hp with e | e
          · have : c = x1 := by omega
            subst this; omega
          · omega
        by_cases cf : Z (a' x1) < Z (a' k)
        · have LF : Hid (∀ x, QS w x bq gp np cp N PB PL PC Z a' → Calls Try.prog 53 #[.pointer (some ⟨bq, 0, none⟩), .int .i64 (x1 : Nat), .int .i64 (k : Nat)] x fun e w' => e = .returned (.bool true) ∧ QS w w' bq gp np cp N PB PL PC Z a') := fun x qx => less_qs qx x1 k (by omega) (by omega) true (by simpa using cf)
          have HW : Hid (∀ x, QS w x bq gp np cp N PB PL PC Z a' → Calls Try.prog 56 #[.pointer (some ⟨bq, 0, none⟩), .int .i64 (k : Nat), .int .i64 (x1 : Nat)] x fun e w' => e = .returned (.tuple #[]) ∧ QS w w' bq gp np cp N PB PL PC Z (swp a' k x1)) := fun x qx => swap_qs qx k x1 (by omega) (by omega)
          have HN : Hid (DownTo Z (swp a' k x1) m x1) := down_step HD.out (by omega) (by omega) (by omega) hmin cf
          have hs2 := hs.trans (swp_same a' (m := m) (i := k) (j := x1) (by omega) (by omega))
          have hl2 : swp a' k x1 m = a m := by rw [swp_o a' (by omega) (by omega)]; exact hlast
          clear cf hmin HD hs hlast
          go_wp2_with (first | (go_at_call_of 53 k; refine (LF.out _ HQ.out).mono ?_; rintro e wf ⟨rfl, q1⟩; have HQF : Hid (QS w wf bq gp np cp N PB PL PC Z a') := q1; clear q1)  | (go_at_call 56; refine (HW.out _ HQF.out).mono ?_; rintro e ws ⟨rfl, q1⟩; have HQS : Hid (QS w ws bq gp np cp N PB PL PC Z (swp a' k x1)) := q1; clear q1))
          go_roundw
          case rel => exact ⟨x1, swp a' k x1, rfl, .inl (by omega), HQS.out, hs2, hl2, HN.out⟩
          case measure => simp [intOf]; omega
        · have LF : Hid (∀ x, QS w x bq gp np cp N PB PL PC Z a' → Calls Try.prog 53 #[.pointer (some ⟨bq, 0, none⟩), .int .i64 (x1 : Nat), .int .i64 (k : Nat)] x fun e w' => e = .returned (.bool false) ∧ QS w w' bq gp np cp N PB PL PC Z a') := fun x qx => less_qs qx x1 k (by omega) (by omega) false (by simpa using cf)
          have HH : Hid (Heap Z a' m) := stop_of HD.out hmin cf
          clear cf hmin HD
          go_wp2_with (first | (go_at_call_of 53 k; refine (LF.out _ HQ.out).mono ?_; rintro e wf ⟨rfl, q1⟩; have HQF : Hid (QS w wf bq gp np cp N PB PL PC Z a') := q1; clear q1) )
          go_ret
          exact ⟨⟨_, rfl⟩, a', HQF.out, hs, hlast, HH.out⟩
    · have HH : Hid (Heap Z a' m) := down_stop HD.out (fun c h0 hc hp => by have := kids h0 hp; omega)
      have c1i : (m : Int) ≤ 2 * (k : Int) + 1 := by omega
      go_wp2
      go_ret
      exact ⟨⟨_, rfl⟩, a', HQ.out, hs, hlast, HH.out⟩
end Go.Proofs.Qxb6614053a
