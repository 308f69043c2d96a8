import Derived.Test.Qxb6614111aSmall
namespace Go.Proofs.Qxb6614111a
open Go.ChangeShapes Go.WideShapes Go.ChangeAt Go.RowKit

/-- the places of a script that came in -/
def ScIn (w : World) (a : Option Addr) (len : Nat) (S : Nat → Nat) : Prop := 0 < len → ∃ b off, a = some ⟨b, off, none⟩ ∧ b < w.heap.size ∧ ∀ i, i < len → w.cell? ⟨b, off + i, none⟩ = some (.int .i64 ((S i : Nat) : Int))

theorem bcell {W w1 : World} (hb : Below W.heap.size W w1) : (∀ b o, b < W.heap.size → w1.cell? ⟨b, o, none⟩ = W.cell? ⟨b, o, none⟩) :=
  fun b o h => hb.cell (p := ⟨b, o, none⟩) h
theorem below_d {w w1 : World} (hb : Below w.drew.heap.size w.drew w1) : Below w.heap.size w w1 := ((Below.refl _ _).drew).trans hb

theorem wrap_add (a b : Nat) (ha : a ≤ 65536) (hb : b ≤ 65536) : IntKind.i64.wrap ((a : Int) + (b : Int)) = (a : Int) + (b : Int) := by rw [IntKind.wrap_i64]; omega
theorem toNat_add (a b : Nat) : ((a : Int) + (b : Int)).toNat = a + b := by omega

set_option maxHeartbeats 2000000 in
theorem outIs_any (g cap nops np ns c0 c1 c2 : Nat) (a0 a1 a2 : Option Addr) (K T X KP TP XP : Nat → Int) (S : Nat → Nat) (w : World)
    (l0 : nops ≤ 65536) (l1 : np ≤ 65536) (l2 : ns ≤ 65536) (hops : OpsIn w a0 nops K T X) (hpre : OpsIn w a1 np KP TP XP) (hsc : ScIn w a2 ns S) (hS : ∀ i, i < ns → S i < nops) (lg : g < w.heap.size)
    (hGp : OpsAt w g 0 np KP TP XP) (hGs : ∀ i, i < ns → w.cell? ⟨g, (np + i) * 3, none⟩ = some (.int .u8 (K (S i))) ∧ w.cell? ⟨g, (np + i) * 3 + 1, none⟩ = some (.int .i32 (T (S i))) ∧ w.cell? ⟨g, (np + i) * 3 + 2, none⟩ = some (.int .i32 (X (S i)))) :
    Calls Try.prog 8 #[.slice (some ⟨g, 0, none⟩) (np + ns) cap, .slice a0 nops c0, .slice a1 np c1, .slice a2 ns c2] w
      fun e w' => e = .returned (.bool true) ∧ Below w.heap.size w w' := by
  go_enter Try.func8, Try.ntmps8
  go_wp2
  go_loopw [9] (fun i wr => ∃ k : Nat, k ≤ np ∧ i = .int .i64 k ∧ Below w.heap.size w wr) (fun i _ => np - (intOf i).toNat)
  case atStart => exact ⟨0, Nat.zero_le _, rfl, Below.refl _ _⟩
  case round =>
    obtain ⟨k, hk, rfl, hB⟩ := hrel
    by_cases hlt : k < np
    · obtain ⟨b, off, rfl, hb, hat⟩ := hpre (by omega)
      obtain ⟨e0, e1, e2⟩ := hat k hlt
      obtain ⟨g0, g1, g2⟩ := hGp k hlt
      simp only [Nat.zero_add] at g0 g1 g2
      have hc := bcell hB
      have hklt : (k : Int) < (np : Int) := by omega
      have hkl2 : (k : Int) < (np : Int) + (ns : Int) := by omega
      have lb : b < wr.heap.size := Nat.lt_of_lt_of_le hb hB.size
      have lgr : g < wr.heap.size := Nat.lt_of_lt_of_le lg hB.size
      go_wp2
      go_region_held3 (fun x => ∀ b o, b < wr.heap.size → x.cell? ⟨b, o, none⟩ = wr.cell? ⟨b, o, none⟩) (first | exact fun b o h => rfl | exact hc1)
        (first | (go_at_call 12; refine (same12 (KP k) (TP k) (XP k) _).mono ?_; rintro e w1 ⟨rfl, hb1⟩; have hB1 := below_d hb1; have hc1 := bcell hB1; clear hb1))
      go_wp2
      go_roundw
      case rel => exact ⟨k + 1, by omega, by go_num, hB.trans (hB1.mono hB.size)⟩
      case measure => simp [intOf]; omega
    · clear hpre hGp
      obtain rfl : np = k := by omega
      go_wp2
      go_loopw [10] (fun i wr => ∃ k : Nat, k ≤ ns ∧ i = .int .i64 k ∧ Below w.heap.size w wr) (fun i _ => ns - (intOf i).toNat)
      case atStart => exact ⟨0, Nat.zero_le _, rfl, hB⟩
      case round =>
        obtain ⟨j, hj, rfl, hBj⟩ := hrel
        clear hB
        by_cases hjt : j < ns
        · obtain ⟨b2, o2, rfl, hb2, hs2⟩ := hsc (by omega)
          have es := hs2 j hjt
          have hSj := hS j hjt
          obtain ⟨b0, o0, rfl, hb0, hat⟩ := hops (by omega)
          obtain ⟨e0, e1, e2⟩ := hat (S j) hSj
          obtain ⟨g0, g1, g2⟩ := hGs j hjt
          have hc := bcell hBj
          have hjl : (j : Int) < (ns : Int) := by omega
          have hjl2 : (np : Int) + (j : Int) < (np : Int) + (ns : Int) := by omega
          have hnn : (0 : Int) ≤ (np : Int) + (j : Int) := by omega
          have hsl : ((S j : Nat) : Int) < (nops : Int) := by omega
          have hj6 : j ≤ 65536 := by omega
          have hwr := wrap_add np j l1 hj6
          have htn := toNat_add np j
          have lb0 : b0 < wr.heap.size := Nat.lt_of_lt_of_le hb0 hBj.size
          have lb2 : b2 < wr.heap.size := Nat.lt_of_lt_of_le hb2 hBj.size
          have lgr : g < wr.heap.size := Nat.lt_of_lt_of_le lg hBj.size
          clear hops hsc hS hGs hat hs2
          go_wp2
          go_region_held3 (fun x => ∀ b o, b < wr.heap.size → x.cell? ⟨b, o, none⟩ = wr.cell? ⟨b, o, none⟩) (first | exact fun b o h => rfl | exact hc1)
            (first | (go_at_call 12; refine (same12 (K (S j)) (T (S j)) (X (S j)) _).mono ?_; rintro e w1 ⟨rfl, hb1⟩; have hB1 := below_d hb1; have hc1 := bcell hB1; clear hb1))
          go_wp2
          go_roundw
          case rel => exact ⟨j + 1, by omega, by go_num, hBj.trans (hB1.mono hBj.size)⟩
          case measure => simp [intOf]; omega
        · go_wp2
          go_ret
          exact ⟨rfl, hBj⟩
end Go.Proofs.Qxb6614111a
