import Derived.Test.Qxb6613618aFmtRefuses
import Derived.ProofKit
import Derived.OpenShut
import Derived.ShutString
import Derived.Stop.JoinedTold
import Derived.SevenToldRow
namespace Go.Proofs.Qxb6613618aFmt
open Go.ChangeShapes Go.WideShapes Go.ChangeAt Go.RowKit
open Go.ChangeMaps (open_string shut_string)
open Go.Extern.Stop Go.Stop Go.Extern

theorem c23 : Tryf.prog.cellsOf 23 = 9 := by kernel_rfl
theorem c9 : Tryf.prog.cellsOf 9 = 1 := by kernel_rfl
theorem c2 : Tryf.prog.cellsOf 2 = 1 := by kernel_rfl

theorem nine {α : Type} {cs : List α} (h : cs.length = 9) : ∃ c0 c1 c2 c3 c4 c5 c6 c7 c8, cs = [c0, c1, c2, c3, c4, c5, c6, c7, c8] := by
  match cs, h with
  | [c0, c1, c2, c3, c4, c5, c6, c7, c8], _ => exact ⟨c0, c1, c2, c3, c4, c5, c6, c7, c8, rfl⟩

theorem act_cells {H : Type} {enc : TypeId × Value → H} {w : World} {base : Nat} {spare : Nat → Bool} {held : Bool} {fuel : Nat} {cs : List Value} {x : DataW H × List MemPlace}
    (h : DataW.trod enc Tryf.prog w base spare held fuel 23 cs = some x) :
    ∃ (s0 s1 s2 s3 s4 s5 s6 s7 : ByteArray) (t : Int), cs = [.string s0, .string s1, .string s2, .string s3, .string s4, .string s5, .string s6, .string s7, .int .i64 t] := by
  obtain ⟨xs, n, _, _, hl, hlen, hf⟩ := DataW.trod_struct Tryf.underlying23 h
  rw [c23] at hl
  obtain ⟨v0, v1, v2, v3, v4, v5, v6, v7, v8, rfl⟩ := nine hl
  obtain ⟨y0, y1, y2, y3, y4, y5, y6, y7, y8, rfl⟩ := nine (hlen.trans rfl)
  have g0 := hf 0 _ rfl
  have g1 := hf 1 _ rfl
  have g2 := hf 2 _ rfl
  have g3 := hf 3 _ rfl
  have g4 := hf 4 _ rfl
  have g5 := hf 5 _ rfl
  have g6 := hf 6 _ rfl
  have g7 := hf 7 _ rfl
  have g8 := hf 8 _ rfl
  simp [c9] at g0 g1 g2 g3 g4 g5 g6 g7
  simp [c2] at g8
  obtain ⟨s0, e0, _, _⟩ := DataW.trod_string Tryf.underlying9 g0
  obtain ⟨s1, e1, _, _⟩ := DataW.trod_string Tryf.underlying9 g1
  obtain ⟨s2, e2, _, _⟩ := DataW.trod_string Tryf.underlying9 g2
  obtain ⟨s3, e3, _, _⟩ := DataW.trod_string Tryf.underlying9 g3
  obtain ⟨s4, e4, _, _⟩ := DataW.trod_string Tryf.underlying9 g4
  obtain ⟨s5, e5, _, _⟩ := DataW.trod_string Tryf.underlying9 g5
  obtain ⟨s6, e6, _, _⟩ := DataW.trod_string Tryf.underlying9 g6
  obtain ⟨s7, e7, _, _⟩ := DataW.trod_string Tryf.underlying9 g7
  obtain ⟨t, e8, _, _⟩ := DataW.trod_int Tryf.underlying2 g8
  simp at e0 e1 e2 e3 e4 e5 e6 e7 e8
  subst e0 e1 e2 e3 e4 e5 e6 e7 e8
  exact ⟨s0, s1, s2, s3, s4, s5, s6, s7, t, rfl⟩

theorem open_act {H : Type} {enc : TypeId × Value → H} {w : World} {base b0 : Nat} {r : Reach} {spare : Nat → Bool} {held : Bool} {v : Value} {d : DataW H} {p : List MemPlace}
    (hv : Value.okWide Tryf.prog w r b0 23 v) (h : DataW.Trod enc Tryf.prog w base spare held 23 v d p) :
    ∃ (s0 s1 s2 s3 s4 s5 s6 s7 : ByteArray) (t : Int), v = .agg #[.string s0, .string s1, .string s2, .string s3, .string s4, .string s5, .string s6, .string s7, .int .i64 t] := by
  obtain ⟨cs, rfl, hsz⟩ := okWide_struct Tryf.underlying23 hv
  obtain ⟨fuel, hf⟩ := h
  obtain ⟨s0, s1, s2, s3, s4, s5, s6, s7, t, e⟩ := act_cells hf
  refine ⟨s0, s1, s2, s3, s4, s5, s6, s7, t, ?_⟩
  have e' : cs.toList = [.string s0, .string s1, .string s2, .string s3, .string s4, .string s5, .string s6, .string s7, .int .i64 t] := by simpa [Value.cells] using e
  have : cs = #[.string s0, .string s1, .string s2, .string s3, .string s4, .string s5, .string s6, .string s7, .int .i64 t] := by
    apply Array.toList_inj.1; simpa using e'
  rw [this]

theorem open_kept {H : Type} {enc : TypeId × Value → H} {w : World} {base b0 : Nat} {r : Reach} {spare : Nat → Bool} {held : Bool} {v : Value} {d : DataW H} {p : List MemPlace}
    (hv : Value.okWide Tryf.prog w r b0 24 v) (h : DataW.Trod enc Tryf.prog w base spare held 24 v d p) :
    v = .pointer none ∨ ∃ (b o : Nat) (s0 s1 s2 s3 s4 s5 s6 s7 : ByteArray) (t : Int), v = .pointer (some ⟨b, o, none⟩) ∧ b < w.heap.size ∧
      w.cell? ⟨b, o, none⟩ = some (.string s0) ∧ w.cell? ⟨b, o + 1, none⟩ = some (.string s1) ∧ w.cell? ⟨b, o + 2, none⟩ = some (.string s2) ∧ w.cell? ⟨b, o + 3, none⟩ = some (.string s3) ∧ w.cell? ⟨b, o + 4, none⟩ = some (.string s4) ∧ w.cell? ⟨b, o + 5, none⟩ = some (.string s5) ∧ w.cell? ⟨b, o + 6, none⟩ = some (.string s6) ∧ w.cell? ⟨b, o + 7, none⟩ = some (.string s7) ∧ w.cell? ⟨b, o + 8, none⟩ = some (.int .i64 t) := by
  rcases open_ptr Tryf.underlying24 (by rw [c23]; omega) hv h with ⟨rfl, _, _⟩ | ⟨b, o, cs, y, fuel, rfl, _, _, hlen, hcell, hy⟩
  · exact Or.inl rfl
  · right
    obtain ⟨s0, s1, s2, s3, s4, s5, s6, s7, t, rfl⟩ := act_cells hy
    rw [c23] at hcell
    have g0 := hcell 0 (by omega)
    have hlt : b < w.heap.size := World.block_lt_of_cell? w ⟨b, o + 0, none⟩ (by simpa using g0)
    exact ⟨b, o, s0, s1, s2, s3, s4, s5, s6, s7, t, rfl, hlt, by simpa using g0, by simpa using hcell 1 (by omega), by simpa using hcell 2 (by omega), by simpa using hcell 3 (by omega), by simpa using hcell 4 (by omega), by simpa using hcell 5 (by omega), by simpa using hcell 6 (by omega), by simpa using hcell 7 (by omega), by simpa using hcell 8 (by omega)⟩

theorem own : ownKnob Tryf.prog.godebug = none := by kernel_rfl
theorem laidOut : laidOutB Tryf.pinned.checked.prog = true := by kernel_rfl
theorem stopKnobs : Tryf.pinned.checked.prog.stopKnobs = [] := by kernel_rfl
theorem quiet (os : Os) : Stop.quiet Tryf.pinned.checked.prog os := by
  intro k hk
  rw [stopKnobs] at hk
  cases hk
end Go.Proofs.Qxb6613618aFmt
