import Derived.Test.Qxb6614053aPopA
import Derived.Test.Qxb6614053aHPush
import Derived.Test.Qxb6614053aDown
namespace Go.Proofs.Qxb6614053a
open Go.ChangeShapes Go.WideShapes Go.ChangeAt Go.RowKit
attribute [local go_sem] m_less m_swap m_len m_push m_pop

theorem pop54_any {B C : Nat} {w : World} {bq n : Nat} {Z : Nat → Int} {a : Nat → Nat} (h : P B C w bq (n + 1) Z a) :
    Calls Try.prog 54 #[.pointer (some ⟨bq, 0, none⟩)] w fun e w' => e = .returned .nilIface ∧ P B C w' bq n Z a ∧ Keep B C w w' := by
  have HD : Hid (Calls Try.prog 57 #[.pointer (some ⟨bq, 0, none⟩)] w fun e w' => e = .returned (.agg (ent Z (a n)).toArray) ∧ P B C w' bq n Z a ∧ Keep B C w w') := drop_any h
  clear h
  go_enter Try.func54, Try.ntmps54
  go_wp2_with (go_at_call 57; refine HD.out.mono ?_; rintro e w1 ⟨rfl, q1⟩; have HQ : Hid (P B C w1 bq n Z a ∧ Keep B C w w1) := q1; clear q1)
  go_ret
  exact ⟨rfl, HQ.out⟩

theorem at0_any {B C : Nat} {w : World} {bq n : Nat} {Z : Nat → Int} {a : Nat → Nat} (h : P B C w bq (n + 1) Z a) :
    ∃ pb, pb < w.heap.size ∧ w.rangeAt pb 0 (ent Z (a 0)) ∧ ∀ x, Below w.heap.size w x → Calls Try.prog 35 #[.pointer (some ⟨bq, 0, none⟩), .int .i64 0] x fun e w' => e = .returned (.pointer (some ⟨pb, 0, none⟩)) ∧ w' = x := by
  obtain ⟨gp, cp, np, PB, PL, PC, h⟩ := h
  have h0 := (h.geo.2.2.2.2.2 0 (by omega)).1
  refine ⟨PB 0, (h.geo.2.2.1 0 h0).1, by simpa using (h.ents 0 (by omega)).1, fun x hx => ?_⟩
  have k : Kept np PB w x := Kept.of_below hx
  have := at_any (k.geo h.geo) 0 (by omega)
  simpa using this

set_option linter.unusedSimpArgs false in
set_option maxHeartbeats 1000000 in
set_option maxRecDepth 100000 in
theorem first_any {B C : Nat} {w : World} {bq n : Nat} {Z : Nat → Int} {a : Nat → Nat} (h : P B C w bq (n + 1) Z a) :
    Calls Try.prog 29 #[.pointer (some ⟨bq, 0, none⟩)] w fun e w' => e = .returned (.agg (ent Z (a 0)).toArray) ∧ Below w.heap.size w w' := by
  obtain ⟨pb, lp, hr, hA⟩ := at0_any h
  have HA : Hid (∀ x, Below w.heap.size w x → Calls Try.prog 35 #[.pointer (some ⟨bq, 0, none⟩), .int .i64 0] x fun e w' => e = .returned (.pointer (some ⟨pb, 0, none⟩)) ∧ w' = x) := hA
  clear hA h
  obtain ⟨vs, hv⟩ : ∃ vs, ent Z (a 0) = vs := ⟨_, rfl⟩
  have hvs : vs.length = 35 := by rw [← hv]; rfl
  have hvo : vs.toArray.all (·.oneCell') = true := by rw [← hv]; exact ent_one _ _
  rw [hv] at hr ⊢
  clear hv
  go_enter Try.func29, Try.ntmps29
  go_wp2_with (first
    | (go_at_call 35; refine (HA.out _ (by exact (Below.refl _ _).alloc (Nat.le_refl _) _)).mono ?_; rintro e w1 ⟨rfl, hw⟩; obtain rfl := hw.symm)
    | (refine wpList_load_mid rfl 55 (.tmp 5) rfl pb 0 rfl vs _ (by exact range_of_block hr (((Below.refl _ _).alloc (Nat.le_refl _) _).block _ lp)) Try.underlying55 rfl (i55w vs hvs) ?_)
    | (refine wpList_store_mid rfl 55 (.tmp 2) (.tmp 6) rfl w.heap.size 0 vs.toArray rfl rfl (there_vs _ _ vs hvs rfl) (i55v vs hvs) hvo ?_))
  exact bodyPost_ret (v := .agg vs.toArray) (res_cell Try.results29 _ _ w.heap.size 0 rfl vs _ (World.rangeAt_setCells_same _ _ _ _ (by rw [hvs]; exact there_z _ _ rfl)) Try.underlying55 rfl (i55w vs hvs)) rfl ⟨rfl, below_setCells (Nat.le_refl _) _ _ _ ((Below.refl _ _).alloc (Nat.le_refl _) _)⟩

theorem hswap_any {B C : Nat} {w : World} {bq n : Nat} {Z : Nat → Int} {a : Nat → Nat} (h : P B C w bq (n + 1) Z a) :
    Calls Try.prog 56 #[.pointer (some ⟨bq, 0, none⟩), .int .i64 0, .int .i64 n] w fun e w' => e = .returned (.tuple #[]) ∧ P B C w' bq (n + 1) Z (swp a 0 n) ∧ Keep B C w w' := by
  obtain ⟨gp, cp, np, PB, PL, PC, h⟩ := h
  refine (swap_qs h.self 0 n (by omega) (by omega)).mono ?_
  rintro e w' ⟨rfl, q⟩
  have := h.qs q
  exact ⟨rfl, ⟨gp, cp, np, PB, PL, PC, this.1⟩, this.2⟩
theorem hdown_any {B C : Nat} {w : World} {bq n : Nat} {Z : Nat → Int} {a : Nat → Nat} (h : P B C w bq (n + 1) Z a) (hd : DownTo Z a n 0) :
    Calls Try.prog 36 #[.iface 24 (.pointer (some ⟨bq, 0, none⟩)), .int .i64 0, .int .i64 n] w fun e w' => (∃ b, e = .returned (.bool b)) ∧ ∃ a', P B C w' bq (n + 1) Z a' ∧ Same a a' n ∧ Heap Z a' n ∧ Keep B C w w' := by
  obtain ⟨gp, cp, np, PB, PL, PC, h⟩ := h
  refine (down_any bq gp np cp (n + 1) n PB PL PC Z a w h.self (by omega) h.geo.2.2.2.2.1.2.2.2 hd).mono ?_
  rintro e w' ⟨hb, a', q, hs, _, hh⟩
  have := h.qs q
  exact ⟨hb, a', ⟨gp, cp, np, PB, PL, PC, this.1⟩, hs, hh, this.2⟩
theorem P.le {B C : Nat} {w : World} {bq n : Nat} {Z : Nat → Int} {a : Nat → Nat} (h : P B C w bq n Z a) : n ≤ 65536 := by
  obtain ⟨gp, cp, np, PB, PL, PC, h⟩ := h
  exact h.geo.2.2.2.2.1.2.2.2

set_option maxHeartbeats 400000 in
set_option maxRecDepth 100000 in
theorem hpop_any {B C : Nat} {w : World} {bq n : Nat} {Z : Nat → Int} {a : Nat → Nat} (h : P B C w bq (n + 1) Z a) (hh : Heap Z a (n + 1)) :
    Calls Try.prog 30 #[.iface 24 (.pointer (some ⟨bq, 0, none⟩))] w fun e w' => e = .returned .nilIface ∧ ∃ a', P B C w' bq n Z a' ∧ Same (swp a 0 n) a' n ∧ Heap Z a' n ∧ Keep B C w w' := by
  have hle := h.le
  have HL : Hid (Calls Try.prog 20 #[.pointer (some ⟨bq, 0, none⟩)] w fun e w' => e = .returned (.int .i64 ((n : Int) + 1)) ∧ w' = w) := len_any bq _ w (by have := h.len; simpa using this)
  have HS : Hid (Calls Try.prog 56 #[.pointer (some ⟨bq, 0, none⟩), .int .i64 0, .int .i64 n] w fun e w' => e = .returned (.tuple #[]) ∧ P B C w' bq (n + 1) Z (swp a 0 n) ∧ Keep B C w w') := hswap_any h
  have HD : Hid (∀ x, P B C x bq (n + 1) Z (swp a 0 n) → Calls Try.prog 36 #[.iface 24 (.pointer (some ⟨bq, 0, none⟩)), .int .i64 0, .int .i64 n] x fun e w' => (∃ b, e = .returned (.bool b)) ∧ ∃ a', P B C w' bq (n + 1) Z a' ∧ Same (swp a 0 n) a' n ∧ Heap Z a' n ∧ Keep B C x w') :=
    fun x hx => hdown_any hx (down_pop hh)
  have HP : Hid (∀ x a', P B C x bq (n + 1) Z a' → Calls Try.prog 54 #[.pointer (some ⟨bq, 0, none⟩)] x fun e w' => e = .returned .nilIface ∧ P B C w' bq n Z a' ∧ Keep B C x w') := fun x a' hx => pop54_any hx
  have e1 : (n : Int) + 1 - 1 = (n : Int) := by omega
  clear h hh
  go_enter Try.func30, Try.ntmps30
  go_wp2_with (first
    | (go_at_call 20; refine HL.out.mono ?_; rintro e w1 ⟨rfl, hw⟩; obtain rfl := hw.symm)
    | (go_at_call 56; refine HS.out.mono ?_; rintro e w2 ⟨rfl, q2⟩; have HQ2 : Hid (P B C w2 bq (n + 1) Z (swp a 0 n) ∧ Keep B C w w2) := q2; clear q2)
    | (go_at_call 36; refine (HD.out _ HQ2.out.1).mono ?_; rintro e w3 ⟨⟨b3, rfl⟩, a3, q3⟩; have HQ3 : Hid (P B C w3 bq (n + 1) Z a3 ∧ Same (swp a 0 n) a3 n ∧ Heap Z a3 n ∧ Keep B C w2 w3) := q3; clear q3)
    | (go_at_call 54; refine (HP.out _ a3 HQ3.out.1).mono ?_; rintro e w4 ⟨rfl, q4⟩; have HQ4 : Hid (P B C w4 bq n Z a3 ∧ Keep B C w3 w4) := q4; clear q4))
  go_ret
  exact ⟨rfl, a3, HQ4.out.1, HQ3.out.2.1, HQ3.out.2.2.1, (HQ2.out.2.trans HQ3.out.2.2.2).trans HQ4.out.2⟩
end Go.Proofs.Qxb6614053a
