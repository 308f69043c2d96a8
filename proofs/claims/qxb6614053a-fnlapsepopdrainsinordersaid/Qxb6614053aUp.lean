import Derived.Test.Qxb6614053aSwap
namespace Go.Proofs.Qxb6614053a
open Go.ChangeShapes Go.WideShapes Go.ChangeAt Go.RowKit

theorem m_less (v : Option Addr) (w : World) : (method 214 24 (.pointer v) "Less").run Try.prog w = .ok (53, .pointer v) w := by kernel_rfl
theorem m_swap (v : Option Addr) (w : World) : (method 214 24 (.pointer v) "Swap").run Try.prog w = .ok (56, .pointer v) w := by kernel_rfl
theorem m_len (v : Option Addr) (w : World) : (method 214 24 (.pointer v) "Len").run Try.prog w = .ok (20, .pointer v) w := by kernel_rfl
theorem m_push (v : Option Addr) (w : World) : (method 214 24 (.pointer v) "Push").run Try.prog w = .ok (55, .pointer v) w := by kernel_rfl
theorem m_pop (v : Option Addr) (w : World) : (method 214 24 (.pointer v) "Pop").run Try.prog w = .ok (54, .pointer v) w := by kernel_rfl
attribute [local go_sem] m_less m_swap m_len m_push m_pop

theorem ents_below {bq gp np cp n : Nat} {PB PL PC : Nat → Nat} {Z : Nat → Int} {a : Nat → Nat} {w w' : World} (g : Geo w bq gp np cp n PB PL PC) (E : Ents w n PB Z a) (hb : Below w.heap.size w w') : Ents w' n PB Z a := by
  intro i hi
  have hl := (g.2.2.1 _ (g.2.2.2.2.2 i hi).1).1
  refine ⟨fun j v hv => (hb.cell (p := ⟨PB (i / 1024), i % 1024 * 35 + j, none⟩) hl).trans ((E i hi).1 j v hv), fun j hj => ?_⟩
  have h2 := (E i hi).2 j hj
  exact ⟨by rw [hb.cell (p := ⟨PB (i / 1024), i % 1024 * 35 + j, none⟩) hl]; exact h2.1, by rw [hb.frozen (p := ⟨PB (i / 1024), i % 1024 * 35 + j, none⟩) hl]; exact h2.2⟩

/-- the queue in memory, and all else as it was in w -/
def QS (w wr : World) (bq gp np cp n : Nat) (PB PL PC : Nat → Nat) (Z : Nat → Int) (a : Nat → Nat) : Prop := Geo wr bq gp np cp n PB PL PC ∧ Ents wr n PB Z a ∧ Kept np PB w wr

theorem less_qs {w wr : World} {bq gp np cp n : Nat} {PB PL PC : Nat → Nat} {Z : Nat → Int} {a : Nat → Nat} (q : QS w wr bq gp np cp n PB PL PC Z a) (i j : Nat) (hi : i < n) (hj : j < n) (c : Bool) (hc : decide (Z (a i) < Z (a j)) = c) :
    Calls Try.prog 53 #[.pointer (some ⟨bq, 0, none⟩), .int .i64 i, .int .i64 j] wr fun e w' => e = .returned (.bool c) ∧ QS w w' bq gp np cp n PB PL PC Z a := by
  refine (less_any q.1 q.2.1 i j hi hj).mono ?_
  rintro e w' ⟨rfl, hb⟩
  have k : Kept np PB wr w' := Kept.of_below hb
  exact ⟨by rw [hc], k.geo q.1, ents_below q.1 q.2.1 hb, q.2.2.trans k⟩
theorem swap_qs {w wr : World} {bq gp np cp n : Nat} {PB PL PC : Nat → Nat} {Z : Nat → Int} {a : Nat → Nat} (q : QS w wr bq gp np cp n PB PL PC Z a) (i j : Nat) (hi : i < n) (hj : j < n) :
    Calls Try.prog 56 #[.pointer (some ⟨bq, 0, none⟩), .int .i64 i, .int .i64 j] wr fun e w' => e = .returned (.tuple #[]) ∧ QS w w' bq gp np cp n PB PL PC Z (swp a i j) := by
  refine (swap_any q.1 q.2.1 i j hi hj).mono ?_
  rintro e w' ⟨rfl, k, hE⟩
  exact ⟨rfl, k.geo q.1, hE, q.2.2.trans k⟩

set_option maxHeartbeats 400000 in
set_option maxRecDepth 100000 in
theorem up_any (bq gp np cp n j : Nat) (PB PL PC : Nat → Nat) (Z : Nat → Int) (a : Nat → Nat) (w : World) (q : QS w w bq gp np cp n PB PL PC Z a) (hj : j < n) (hn : n ≤ 65536) (hu : UpTo Z a n j) :
    Calls Try.prog 24 #[.iface 24 (.pointer (some ⟨bq, 0, none⟩)), .int .i64 j] w fun e w' => e = .returned (.tuple #[]) ∧ ∃ a', QS w w' bq gp np cp n PB PL PC Z a' ∧ Same a a' n ∧ Heap Z a' n := by
  go_enter Try.func24, Try.ntmps24
  go_wp2
  go_loopw [1] (fun x wr => ∃ k a', x = .int .i64 (k : Nat) ∧ k < n ∧ QS w wr bq gp np cp n PB PL PC Z a' ∧ Same a a' n ∧ UpTo Z a' n k) (fun x _ => (intOf x).toNat)
  case atStart => exact ⟨j, a, rfl, hj, q, Same.refl _ _, hu⟩
  case round =>
    obtain ⟨k, a', rfl, hk, qk, hs, huk⟩ := hrel
    clear q hu hj
    by_cases k0 : k = 0
    · subst k0
      have h := up_stop huk (.inl rfl)
      have HQ : Hid (QS w wr bq gp np cp n PB PL PC Z a') := qk
      clear qk huk
      go_wp2
      go_end0
      exact ⟨rfl, a', HQ.out, hs, h⟩
    · have k1 : (1 : Int) ≤ (k : Int) := by omega
      obtain ⟨p, hp⟩ : ∃ p, (k - 1) / 2 = p := ⟨_, rfl⟩
      have e1 : ((k : Int) - 1) / 2 = (p : Int) := by omega
      have e2 : ((p : Int) == (k : Int)) = false := by simp; omega
      have hpn : p < n := by omega
      have hkk : k ≤ 65536 := by omega
      by_cases c : Z (a' k) < Z (a' p)
      · have hl : Hid (∀ x, QS w x bq gp np cp n PB PL PC Z a' → Calls Try.prog 53 #[.pointer (some ⟨bq, 0, none⟩), .int .i64 k, .int .i64 p] x fun e w' => e = .returned (.bool true) ∧ QS w w' bq gp np cp n PB PL PC Z a') := fun x qx => less_qs qx k p hk hpn true (by simpa using c)
        have hw : Hid (∀ x, QS w x bq gp np cp n PB PL PC Z a' → Calls Try.prog 56 #[.pointer (some ⟨bq, 0, none⟩), .int .i64 p, .int .i64 k] x fun e w' => e = .returned (.tuple #[]) ∧ QS w w' bq gp np cp n PB PL PC Z (swp a' p k)) := fun x qx => swap_qs qx p k hpn hk
        have HN : Hid (UpTo Z (swp a' p k) n p) := by have := up_step huk (by omega) hk (by rw [hp]; exact c); rw [hp] at this; exact this
        have HQ : Hid (QS w wr bq gp np cp n PB PL PC Z a') := qk
        have hs2 := hs.trans (swp_same a' hpn hk)
        clear qk huk c hp hs
        go_wp2_with (first
          | (go_at_call 53; refine (hl.out _ HQ.out).mono ?_; rintro e w1 ⟨rfl, q1⟩; have HQ1 : Hid (QS w w1 bq gp np cp n PB PL PC Z a') := q1; clear q1)
          | (go_at_call 56; refine (hw.out _ HQ1.out).mono ?_; rintro e w2 ⟨rfl, q2⟩; have HQ2 : Hid (QS w w2 bq gp np cp n PB PL PC Z (swp a' p k)) := q2; clear q2))
        go_roundw
        case rel => exact ⟨p, swp a' p k, rfl, hpn, HQ2.out, hs2, HN.out⟩
        case measure => simp [intOf]; omega
      · have hl : Hid (∀ x, QS w x bq gp np cp n PB PL PC Z a' → Calls Try.prog 53 #[.pointer (some ⟨bq, 0, none⟩), .int .i64 k, .int .i64 p] x fun e w' => e = .returned (.bool false) ∧ QS w w' bq gp np cp n PB PL PC Z a') := fun x qx => less_qs qx k p hk hpn false (by simpa using c)
        have HN : Hid (Heap Z a' n) := up_stop huk (.inr (by rw [hp]; omega))
        have HQ : Hid (QS w wr bq gp np cp n PB PL PC Z a') := qk
        clear qk huk c hp
        go_wp2_with (go_at_call 53; refine (hl.out _ HQ.out).mono ?_; rintro e w1 ⟨rfl, q1⟩; have HQ1 : Hid (QS w w1 bq gp np cp n PB PL PC Z a') := q1; clear q1)
        go_end0
        exact ⟨rfl, a', HQ1.out, hs, HN.out⟩
end Go.Proofs.Qxb6614053a
