import Derived.Test.Qxb6614053aMidB
import Derived.Test.Qxb6614053aAdd
namespace Go.Proofs.Qxb6614053a
open Go.ChangeShapes Go.WideShapes Go.ChangeAt Go.RowKit
attribute [local go_sem] m_less m_swap m_len m_push m_pop

theorem len_any (bq : Nat) (v : Value) (w : World) (c1 : w.cell? ⟨bq, 1, none⟩ = some v) : Calls Try.prog 20 #[.pointer (some ⟨bq, 0, none⟩)] w fun e w' => e = .returned v ∧ w' = w := by
  go_enter Try.func20, Try.ntmps20
  go_wp2
  go_ret
  exact ⟨rfl, rfl⟩
theorem zzlen_any (bq : Nat) (v : Value) (w : World) (c1 : w.cell? ⟨bq, 1, none⟩ = some v) : Calls Try.prog 9 #[.pointer (some ⟨bq, 0, none⟩)] w fun e w' => e = .returned v ∧ w' = w := by
  go_enter Try.func9, Try.ntmps9
  go_wp2_with (go_at_call 20; refine (len_any bq v w c1).mono ?_; rintro e w' ⟨rfl, rfl⟩)
  go_ret
  exact ⟨rfl, rfl⟩

theorem Q.len {B : Nat} {w0 w : World} {bq n : Nat} {Z : Nat → Int} {a : Nat → Nat} (h : Q B w0 w bq n Z a) : w.cell? ⟨bq, 1, none⟩ = some (.int .i64 n) := by
  rcases h with ⟨h0, PB, PC, m⟩ | ⟨h0, gp, cp, q, PB, PC, g, pl, cap, xs, hp, m⟩
  · obtain ⟨cq, tq, hq, hq0, hq1⟩ := m.blkq
    subst h0
    rw [cell_row hq]; exact hq1
  · obtain ⟨cq, tq, hq, hq0, hq1⟩ := m.blkq
    rw [cell_row hq]; exact hq1

theorem up_q {B : Nat} {w0 w : World} {bq n : Nat} {Z : Nat → Int} {a : Nat → Nat} (h : Q B w0 w bq n Z a) (j : Nat) (hj : j < n) (hu : UpTo Z a n j) :
    Calls Try.prog 24 #[.iface 24 (.pointer (some ⟨bq, 0, none⟩)), .int .i64 j] w fun e w' => e = .returned (.tuple #[]) ∧ ∃ a', Q B w0 w' bq n Z a' ∧ Same a a' n ∧ Heap Z a' n := by
  rcases h with ⟨h0, PB, PC, m⟩ | ⟨h0, gp, cp, q, PB, PC, g, pl, cap, xs, hp, m⟩
  · omega
  · refine (up_any bq gp (q + 1) cp n j _ _ _ Z a w (mid_qs m) hj m.cnt.2.2 hu).mono ?_
    rintro e w' ⟨rfl, a', hq, hs, hh⟩
    obtain ⟨xs', m'⟩ := qs_mid m hq
    exact ⟨rfl, a', mid_form m' hp, hs, hh⟩

set_option maxHeartbeats 400000 in
set_option maxRecDepth 100000 in
theorem hpush_any {B : Nat} {w0 w : World} {bq n : Nat} {Z : Nat → Int} {a : Nat → Nat} (id : Nat) (h : Q B w0 w bq n Z a) (hn : n < 65536) (hh : Heap Z a n) :
    Calls Try.prog 18 #[.iface 24 (.pointer (some ⟨bq, 0, none⟩)), .iface 55 (.agg (ent Z id).toArray)] w fun e w' => e = .returned (.tuple #[]) ∧
      ∃ a', Q B w0 w' bq (n + 1) Z a' ∧ Same (fun i => if i = n then id else a i) a' (n + 1) ∧ Heap Z a' (n + 1) := by
  have HP : Hid (Calls Try.prog 55 #[.pointer (some ⟨bq, 0, none⟩), .iface 55 (.agg (ent Z id).toArray)] w fun e w' => e = .returned (.tuple #[]) ∧ Q B w0 w' bq (n + 1) Z (fun i => if i = n then id else a i)) := push_q id h hn
  have HU : Hid (∀ x, Q B w0 x bq (n + 1) Z (fun i => if i = n then id else a i) → Calls Try.prog 24 #[.iface 24 (.pointer (some ⟨bq, 0, none⟩)), .int .i64 n] x fun e w' => e = .returned (.tuple #[]) ∧ ∃ a', Q B w0 w' bq (n + 1) Z a' ∧ Same (fun i => if i = n then id else a i) a' (n + 1) ∧ Heap Z a' (n + 1)) :=
    fun x hx => up_q hx n (by omega) (up_push hh (fun i hi => by simp; omega))
  have HL : Hid (∀ x, Q B w0 x bq (n + 1) Z (fun i => if i = n then id else a i) → Calls Try.prog 20 #[.pointer (some ⟨bq, 0, none⟩)] x fun e w' => e = .returned (.int .i64 ((n : Int) + 1)) ∧ w' = x) :=
    fun x hx => len_any bq _ x (by have := hx.len; simpa using this)
  have e1 : (n : Int) + 1 - 1 = (n : Int) := by omega
  clear h hh
  go_enter Try.func18, Try.ntmps18
  go_wp2_with (first
    | (go_at_call 55; refine HP.out.mono ?_; rintro e w1 ⟨rfl, q1⟩; have HQ1 : Hid (Q B w0 w1 bq (n + 1) Z (fun i => if i = n then id else a i)) := q1; clear q1)
    | (go_at_call 20; refine (HL.out _ HQ1.out).mono ?_; rintro e w2 ⟨rfl, hw⟩; obtain rfl := hw.symm)
    | (go_at_call 24; refine (HU.out _ HQ1.out).mono ?_; rintro e w3 ⟨rfl, q3⟩; have HQ3 : Hid (∃ a', Q B w0 w3 bq (n + 1) Z a' ∧ Same (fun i => if i = n then id else a i) a' (n + 1) ∧ Heap Z a' (n + 1)) := q3; clear q3))
  go_end0
  exact ⟨rfl, HQ3.out⟩
end Go.Proofs.Qxb6614053a
