import Derived.Test.Qxb6614111aStart
namespace Go.Proofs.Qxb6614111a
open Go.ChangeShapes Go.WideShapes Go.ChangeAt Go.RowKit

def ScZ (w : World) (a : Option Addr) (len : Nat) (Z : Nat → Int) : Prop := 0 < len → ∃ b off, a = some ⟨b, off, none⟩ ∧ b < w.heap.size ∧ ∀ i, i < len → w.cell? ⟨b, off + i, none⟩ = some (.int .i64 (Z i))

theorem sc_of {w : World} {a : Option Addr} {len nops : Nat} {Z : Nat → Int} (h : ScZ w a len Z) (hz : ∀ j, j < len → 0 ≤ Z j ∧ Z j < (nops : Int)) :
    ∃ S : Nat → Nat, ScIn w a len S ∧ ∀ j, j < len → S j < nops := by
  refine ⟨fun j => (Z j).toNat, fun hn => ?_, fun j hj => by have := hz j hj; show (Z j).toNat < nops; omega⟩
  obtain ⟨b, off, e, hlt, hat⟩ := h hn
  refine ⟨b, off, e, hlt, fun i hi => ?_⟩
  have e1 : (((Z i).toNat : Nat) : Int) = Z i := by have := hz i hi; omega
  rw [hat i hi, e1]

theorem row_lt {w : World} {base e size g n cap : Nat} {xs : List Value} (h : w.ownsRow base e size (.slice (some ⟨g, 0, none⟩) n cap) n xs) : g < w.heap.size := by
  rcases h.2 with ⟨h', _⟩ | ⟨g', cap', cur, h', hbg, hg, rest⟩
  · simp at h'
  · simp only [Value.slice.injEq, Option.some.injEq, Addr.mk.injEq, and_true, true_and] at h'
    obtain ⟨rfl, rfl⟩ := h'
    rcases Nat.lt_or_ge g w.heap.size with h1 | h1
    · exact h1
    · rw [Array.getElem?_eq_none h1] at hg; cases hg
theorem out_cells {w : World} {base g cap np ns : Nat} {xs : List Value} {K T X KP TP XP : Nat → Int} {S : Nat → Nat} (h : w.ownsRow base 43 3 (.slice (some ⟨g, 0, none⟩) (np + ns) cap) (np + ns) xs) (hf : FillG xs np ns K T X KP TP XP S) :
    OpsAt w g 0 np KP TP XP ∧ ∀ i, i < ns → w.cell? ⟨g, (np + i) * 3, none⟩ = some (.int .u8 (K (S i))) ∧ w.cell? ⟨g, (np + i) * 3 + 1, none⟩ = some (.int .i32 (T (S i))) ∧ w.cell? ⟨g, (np + i) * 3 + 2, none⟩ = some (.int .i32 (X (S i))) := by
  refine ⟨fun i hi => ?_, fun i hi => ?_⟩
  · obtain ⟨a, b, c⟩ := hf.1 i hi
    simp only [Nat.zero_add]
    rw [h.cellAt (i * 3) (by omega), h.cellAt (i * 3 + 1) (by omega), h.cellAt (i * 3 + 2) (by omega)]
    exact ⟨a, b, c⟩
  · obtain ⟨a, b, c⟩ := hf.2 i hi
    rw [h.cellAt ((np + i) * 3) (by omega), h.cellAt ((np + i) * 3 + 1) (by omega), h.cellAt ((np + i) * 3 + 2) (by omega)]
    exact ⟨a, b, c⟩

theorem zzout_any (bs : Nat) (a : Option Addr) (n c : Nat) (w : World) (h : w.cell? ⟨bs, 3, none⟩ = some (.slice a n c)) :
    Calls Try.prog 9 #[.pointer (some ⟨bs, 0, none⟩)] w fun e w' => e = .returned (.slice a n c) ∧ w' = w := by
  go_enter Try.func9, Try.ntmps9
  go_wp2
  go_ret
  exact ⟨rfl, rfl⟩
theorem zzdirty_any (bs : Nat) (a : Option Addr) (n c : Nat) (w : World) (h : w.cell? ⟨bs, 14, none⟩ = some (.slice a n c)) :
    Calls Try.prog 10 #[.pointer (some ⟨bs, 0, none⟩)] w fun e w' => e = .returned (.slice a n c) ∧ w' = w := by
  go_enter Try.func10, Try.ntmps10
  go_wp2
  go_ret
  exact ⟨rfl, rfl⟩

set_option maxHeartbeats 1000000 in
theorem law_long (a0 a1 a2 : Option Addr) (n0 c0 n1 c1 n2 c2 : Nat) (w : World) (h : 65536 < n0 ∨ (n0 ≤ 65536 ∧ 65536 < n1) ∨ (n0 ≤ 65536 ∧ n1 ≤ 65536 ∧ 65536 < n2)) :
    Calls Try.prog 3 #[.slice a0 n0 c0, .slice a1 n1 c1, .slice a2 n2 c2] w fun e w' => e = .returned (.bool true) ∧ Below w.heap.size w w' := by
  rcases h with h | ⟨h0, h⟩ | ⟨h0, h1, h⟩
  all_goals
    go_enter Try.func3, Try.ntmps3
    go_wp2_with (go_at_call 4; refine (zz4_any _ _ _ _ _ _ _ _ _ _).mono ?_; rintro e w1 ⟨⟨b, rfl⟩, rfl⟩)
    all_goals go_ret
    all_goals exact ⟨rfl, Below.refl _ _⟩

set_option maxHeartbeats 4000000 in
theorem law_any (a0 a1 a2 : Option Addr) (nops c0 np c1 ns c2 : Nat) (K T X KP TP XP Z : Nat → Int) (w : World) (l0 : nops ≤ 65536) (l1 : np ≤ 65536) (l2 : ns ≤ 65536)
    (hops : OpsIn w a0 nops K T X) (hpre : OpsIn w a1 np KP TP XP) (hsc : ScZ w a2 ns Z) :
    Calls Try.prog 3 #[.slice a0 nops c0, .slice a1 np c1, .slice a2 ns c2] w fun e w' => e = .returned (.bool true) ∧ Below w.heap.size w w' := by
  go_enter Try.func3, Try.ntmps3
  go_wp2_with (go_at_call 4; refine (zz4_any _ _ _ _ _ _ _ _ _ _).mono ?_; rintro e w1 ⟨⟨b, rfl⟩, hw⟩; obtain rfl := hw.symm)
  · go_ret
    exact ⟨rfl, Below.refl _ _⟩
  · go_ret
    exact ⟨rfl, Below.refl _ _⟩
  go_loop [7] (fun i => ∃ k : Nat, k ≤ ns ∧ i = .int .i64 k ∧ ∀ j, j < k → 0 ≤ Z j ∧ Z j < (nops : Int)) (fun i => ns - (intOf i).toNat)
  case atStart => exact ⟨0, Nat.zero_le _, rfl, fun j hj => by omega⟩
  case round =>
    obtain ⟨k, hk, rfl, hz⟩ := hrel
    by_cases hlt : k < ns
    · obtain ⟨b2, o2, rfl, hb2, hs2⟩ := hsc (by omega)
      have es := hs2 k hlt
      have hkl : (k : Int) < (ns : Int) := by omega
      have HZ : Hid (∀ j, j < k → 0 ≤ Z j ∧ Z j < (nops : Int)) := hz
      clear hz hsc hs2 hops hpre
      by_cases hneg : Z k < 0
      · go_wp2
        go_ret
        exact ⟨rfl, Below.refl _ _⟩
      · by_cases hge : (nops : Int) ≤ Z k
        · go_wp2
          go_ret
          exact ⟨rfl, Below.refl _ _⟩
        · go_wp2
          go_round
          case rel =>
            refine ⟨k + 1, by omega, by go_num, fun j hj => ?_⟩
            by_cases e : j = k
            · subst e; omega
            · exact HZ.out j (by omega)
          case measure => simp [intOf]; omega
    · obtain rfl : ns = k := by omega
      obtain ⟨S, hsc', hS⟩ := sc_of hsc hz
      clear hsc hz
      go_wp2_with (first
        | (go_at_call_of 5 a0; refine (toOps_any a0 nops c0 K T X _ l0 hops).mono ?_; rintro e wo ⟨rfl, ⟨xo, hxo, hfo⟩, hBo, hszo⟩)
        | (go_at_call_of 5 a1; refine (toOps_any a1 np c1 KP TP XP _ l1 (by exact (hpre.below hBo).below ((Below.refl _ _).alloc (Nat.le_refl _) _))).mono ?_; rintro e wp ⟨rfl, ⟨xp, hxp, hfp⟩, hBp, hszp⟩)
        | (go_at_call 6; refine (newSched_any _ _ _ _ _).mono ?_; rintro e ws ⟨rfl, rfl⟩))
      have hI := inv_start (S := S) hxo hfo hBo hszo rfl hxp hfp hBp hszp
      clear hxo hfo hBo hszo hxp hfp hBp hszp
      go_loopw [10] (fun i wr => ∃ k : Nat, k ≤ ns ∧ i = .int .i64 k ∧ Inv w wr (w.heap.size + 1 + 1 + 1) (w.heap.size + 1) w.heap.size nops np k K T X KP TP XP S) (fun i _ => ns - (intOf i).toNat)
      case atStart => exact ⟨0, Nat.zero_le _, rfl, hI⟩
      case round =>
        clear hI
        obtain ⟨k, hk, rfl, hIk⟩ := hrel
        by_cases hlt : k < ns
        · obtain ⟨b2, o2, rfl, hb2, hs2⟩ := hsc' (by omega)
          have hSk := hS k hlt
          have es : wr.cell? ⟨b2, o2 + k, none⟩ = some (.int .i64 ((S k : Nat) : Int)) := (hIk.1.cell (p := ⟨b2, o2 + k, none⟩) hb2).trans (hs2 k hlt)
          have hkl : (k : Int) < (ns : Int) := by omega
          have hn2 : np + k ≤ 200000 := by omega
          have HI : Hid (Inv w wr (w.heap.size + 1 + 1 + 1) (w.heap.size + 1) w.heap.size nops np k K T X KP TP XP S) := hIk
          clear hIk hs2 hsc' hS hops hpre
          go_wp2_with (go_at_call 7; refine (zzdo_any HI.out hSk hn2).mono ?_; rintro e w1 ⟨rfl, hI1⟩)
          go_roundw
          case rel => exact ⟨k + 1, by omega, by go_num, hI1⟩
          case measure => simp [intOf]; omega
        · obtain rfl : ns = k := by omega
          obtain ⟨hB, ⟨_, q2, _, _, _, _⟩, ⟨_, _, c14, _⟩, _, _, g, cap, xs, c3, hown, hfill, _⟩ := hIk
          obtain ⟨hGp, hGs⟩ := out_cells hown hfill
          have lg := row_lt hown
          have hO := outIs_any g cap nops np ns c0 c1 c2 a0 a1 a2 K T X KP TP XP S wr l0 l1 l2 (hops.below hB) (hpre.below hB) (hsc'.below hB) hS lg hGp hGs
          have HO : Hid (Calls Try.prog 8 #[.slice (some ⟨g, 0, none⟩) (np + ns) cap, .slice a0 nops c0, .slice a1 np c1, .slice a2 ns c2] wr fun e w' => e = .returned (.bool true) ∧ Below wr.heap.size wr w') := hO
          clear hO hGp hGs hown hfill hops hpre hsc' hS
          go_wp2_with (first
            | (go_at_call 9; refine (zzout_any _ _ _ _ _ c3).mono ?_; rintro e w1 ⟨rfl, hw1⟩; obtain rfl := hw1.symm)
            | (go_at_call 8; refine HO.out.mono ?_; rintro e w2 ⟨rfl, hb2⟩; have h14 := (hb2.cell (p := ⟨w.heap.size + 1 + 1 + 1, 14, none⟩) q2).trans c14)
            | (go_at_call 10; refine (zzdirty_any _ _ _ _ _ h14).mono ?_; rintro e w3 ⟨rfl, hw3⟩; obtain rfl := hw3.symm))
          go_ret
          exact ⟨rfl, hB.trans (hb2.mono hB.size)⟩
end Go.Proofs.Qxb6614111a
