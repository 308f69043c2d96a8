import Derived.Test.Qxb6614111aRows
import Derived.WalkKit
import Derived.ProofKit
import Derived.WalkSpells
import Derived.Deep.RegionHeld3
import Derived.Deep.QuietTactic
import Derived.BigQuiet
import Derived.WalkSmall
import Derived.Deep.AppendLies
import Derived.Deep.RegionLaw
namespace Go.Proofs.Qxb6614111a
open Go.ChangeShapes Go.WideShapes Go.ChangeAt Go.RowKit

set_option maxHeartbeats 1000000 in
theorem zz4_any (a0 a1 a2 : Option Addr) (n0 c0 n1 c1 n2 c2 : Nat) (w : World) :
    Calls Try.prog 4 #[.slice a0 n0 c0, .slice a1 n1 c1, .slice a2 n2 c2] w fun e w' => (∃ b, e = .returned (.bool b)) ∧ w' = w := by
  go_enter Try.func4, Try.ntmps4
  go_wp2
  all_goals go_ret
  all_goals exact ⟨⟨_, rfl⟩, rfl⟩

set_option maxHeartbeats 1000000 in
theorem same12 (k t x : Int) (w : World) :
    Calls Try.prog 12 #[.agg #[.int .u8 k, .int .i32 t, .int .i32 x], .agg #[.int .u8 k, .int .i32 t, .int .i32 x]] w
      fun e w' => e = .returned (.bool true) ∧ Below w.heap.size w w' := by
  go_enter Try.func12, Try.ntmps12
  go_wp2
  go_ret
  exact ⟨by simp, ((Below.refl _ _).alloc (Nat.le_refl _) _).alloc (by simp) _⟩

/-- the operations of a slice that came in, element by element -/
def OpsAt (w : World) (b off len : Nat) (K T X : Nat → Int) : Prop := ∀ i, i < len →
  w.cell? ⟨b, off + i * 3, none⟩ = some (.int .u8 (K i)) ∧ w.cell? ⟨b, off + i * 3 + 1, none⟩ = some (.int .i32 (T i)) ∧ w.cell? ⟨b, off + i * 3 + 2, none⟩ = some (.int .i32 (X i))
def OpsIn (w : World) (a : Option Addr) (len : Nat) (K T X : Nat → Int) : Prop := 0 < len → ∃ b off, a = some ⟨b, off, none⟩ ∧ b < w.heap.size ∧ OpsAt w b off len K T X

def Filled (xs : List Value) (n : Nat) (K T X : Nat → Int) : Prop := ∀ i, i < n → xs[i * 3]? = some (.int .u8 (K i)) ∧ xs[i * 3 + 1]? = some (.int .i32 (T i)) ∧ xs[i * 3 + 2]? = some (.int .i32 (X i))

theorem info43 : (Try.prog.info? 43).map (fun i => (i.zero, i.size, i.bytes)) = some (some (.agg #[.int .u8 0, .int .i32 0, .int .i32 0]), 3, 12) := by kernel_rfl

theorem make_ops (w : World) (len : Nat) (h : len ≤ 65536) : ∃ cs : Array Value, (Instr.makeSlice 26 (.int .i64 (len : Int)) (.int .i64 (len : Int))).run Try.prog w = .ok (.slice (some ⟨w.heap.size, 0, none⟩) len len) (w.alloc (.cells cs 43)) ∧
    (w.alloc (.cells cs 43)).ownsRow w.heap.size 43 3 (.slice (some ⟨w.heap.size, 0, none⟩) len len) len cs.toList := by
  obtain ⟨i0, hi, hz0, hz1, hz2⟩ := info_parts info43
  have hr := run_make (P := Try.prog) w 26 43 i0 _ Try.underlying26 hi hz0 .i64 .i64 len len (by omega) (Int.le_refl _) (by rw [hz2]; omega) (by omega)
  simp only [Int.toNat_natCast] at hr
  exact ⟨_, hr, World.ownsRow_lit w _ len (Nat.le_refl _) (by unfold maxLen; omega) (by rw [← hz1]; exact size_madeCells _ _)⟩

theorem row_some {w : World} {base e size g n cap : Nat} {xs : List Value} (h : w.ownsRow base e size (.slice (some ⟨g, 0, none⟩) n cap) n xs) (j : Nat) (hj : j < n * size) : ∃ u, w.cell? ⟨g, j, none⟩ = some u := by
  rw [h.cellAt j hj]
  have hl := h.1
  exact ⟨xs[j]'(by omega), by simp⟩

theorem far3 {w : World} {b g : Nat} (h : b ≠ g) (j0 j1 j2 : Nat) (u0 u1 u2 : Value) (o : Nat) : (((w.setCell ⟨g, j0, none⟩ u0).setCell ⟨g, j1, none⟩ u1).setCell ⟨g, j2, none⟩ u2).drew.cell? ⟨b, o, none⟩ = w.cell? ⟨b, o, none⟩ := by
  show (((w.setCell ⟨g, j0, none⟩ u0).setCell ⟨g, j1, none⟩ u1).setCell ⟨g, j2, none⟩ u2).cell? ⟨b, o, none⟩ = w.cell? ⟨b, o, none⟩
  rw [World.cell?_setCell_far _ _ _ _ (Ne.symm h), World.cell?_setCell_far _ _ _ _ (Ne.symm h), World.cell?_setCell_far _ _ _ _ (Ne.symm h)]

theorem filled_set {xs : List Value} {k n : Nat} {K T X : Nat → Int} (h : Filled xs k K T X) (hl : xs.length = n * 3) (hk : k < n) :
    Filled (((xs.set (k * 3) (.int .u8 (K k))).set (k * 3 + 1) (.int .i32 (T k))).set (k * 3 + 2) (.int .i32 (X k))) (k + 1) K T X := by
  intro i hi
  by_cases e : i = k
  · subst e
    refine ⟨?_, ?_, ?_⟩ <;> simp [List.getElem?_set] <;> omega
  · obtain ⟨a, b, c⟩ := h i (by omega)
    refine ⟨?_, ?_, ?_⟩
    · rw [List.getElem?_set_ne (by omega), List.getElem?_set_ne (by omega), List.getElem?_set_ne (by omega)]; exact a
    · rw [List.getElem?_set_ne (by omega), List.getElem?_set_ne (by omega), List.getElem?_set_ne (by omega)]; exact b
    · rw [List.getElem?_set_ne (by omega), List.getElem?_set_ne (by omega), List.getElem?_set_ne (by omega)]; exact c

set_option maxHeartbeats 1000000 in
theorem toOps_any (a : Option Addr) (len cap : Nat) (K T X : Nat → Int) (w : World) (hlen : len ≤ 65536) (hin : OpsIn w a len K T X) :
    Calls Try.prog 5 #[.slice a len cap] w fun e w' => e = .returned (.slice (some ⟨w.heap.size, 0, none⟩) len len) ∧
      (∃ xs, w'.ownsRow w.heap.size 43 3 (.slice (some ⟨w.heap.size, 0, none⟩) len len) len xs ∧ Filled xs len K T X) ∧ Below w.heap.size w w' ∧ w'.heap.size = w.heap.size + 1 := by
  obtain ⟨cs, hrun, hown⟩ := make_ops w len hlen
  go_enter Try.func5, Try.ntmps5
  go_wp2
  go_loopw [4] (fun i wr => ∃ k : Nat, k ≤ len ∧ i = .int .i64 k ∧ (∃ xs, wr.ownsRow w.heap.size 43 3 (.slice (some ⟨w.heap.size, 0, none⟩) len len) len xs ∧ Filled xs k K T X) ∧ Below w.heap.size w wr ∧ wr.heap.size = w.heap.size + 1) (fun i _ => len - (intOf i).toNat)
  case atStart => exact ⟨0, Nat.zero_le _, rfl, ⟨_, hown, fun i h => by omega⟩, (Below.refl _ _).alloc (Nat.le_refl _) _, by simp⟩
  case round =>
    obtain ⟨k, hk, rfl, ⟨xs, hxs, hfill⟩, hB, hsz⟩ := hrel
    clear hrun hown
    by_cases hlt : k < len
    · obtain ⟨b, off, rfl, hb, hat⟩ := hin (by omega)
      obtain ⟨e0, e1, e2⟩ := hat k hlt
      have hklt : (k : Int) < (len : Int) := by omega
      have c0 : wr.cell? ⟨b, off + k * 3, none⟩ = some (.int .u8 (K k)) := by rw [hB.cell (p := ⟨b, off + k * 3, none⟩) hb]; exact e0
      have c1 : wr.cell? ⟨b, off + k * 3 + 1, none⟩ = some (.int .i32 (T k)) := by rw [hB.cell (p := ⟨b, off + k * 3 + 1, none⟩) hb]; exact e1
      have c2 : wr.cell? ⟨b, off + k * 3 + 2, none⟩ = some (.int .i32 (X k)) := by rw [hB.cell (p := ⟨b, off + k * 3 + 2, none⟩) hb]; exact e2
      have hf : ∀ j, wr.frozen? ⟨w.heap.size, j, none⟩ = false := fun j => hxs.frozenAt j
      have hne : b ≠ w.heap.size := by omega
      obtain ⟨u0, d0⟩ := row_some hxs (k * 3) (by omega)
      obtain ⟨u1, d1⟩ := row_some hxs (k * 3 + 1) (by omega)
      obtain ⟨u2, d2⟩ := row_some hxs (k * 3 + 2) (by omega)
      go_wp2
      go_region_held3 (fun w' => ∀ o, w'.cell? ⟨b, o, none⟩ = wr.cell? ⟨b, o, none⟩) (first | exact fun o => rfl | exact fun o => far3 hne _ _ _ _ _ _ o) (fail)
      have h1 := (hxs.stored (k * 3) (.int .u8 (K k))).1
      have h2 := (h1.stored (k * 3 + 1) (.int .i32 (T k))).1
      have h3 := (h2.stored (k * 3 + 2) (.int .i32 (X k))).1
      have hF := filled_set hfill hxs.1 hlt
      have hB3 : Below w.heap.size w (((wr.setCell ⟨w.heap.size, k * 3, none⟩ (.int .u8 (K k))).setCell ⟨w.heap.size, k * 3 + 1, none⟩ (.int .i32 (T k))).setCell ⟨w.heap.size, k * 3 + 2, none⟩ (.int .i32 (X k))) :=
        ((hB.setCell (Nat.le_refl _) _).setCell (Nat.le_refl _) _).setCell (Nat.le_refl _) _
      clear hxs hfill hat e0 e1 e2 c0 c1 c2 d0 d1 d2 hf
      go_wp2
      go_roundw
      case rel => exact ⟨k + 1, by omega, by go_num, ⟨_, h3, hF⟩, hB3.drew, by simpa using hsz⟩
      case measure => simp [intOf]; omega
    · go_wp2
      go_ret
      obtain rfl : k = len := by omega
      exact ⟨rfl, ⟨xs, hxs, hfill⟩, hB, hsz⟩
end Go.Proofs.Qxb6614111a
