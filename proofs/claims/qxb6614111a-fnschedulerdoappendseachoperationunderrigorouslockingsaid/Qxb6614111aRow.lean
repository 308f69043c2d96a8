import Derived.Test.Qxb6614111aLaw
import Derived.ProofKit
import Derived.OpenShut
import Derived.ShutString
import Derived.Deep.Slices
import Derived.Deep.Strs
namespace Go.Proofs.Qxb6614111a
open Go.ChangeShapes Go.WideShapes Go.ChangeAt Go.RowKit Go.Deep
set_option linter.unusedVariables false

theorem c41 : Try.prog.cellsOf 41 = 3 := by kernel_rfl
theorem c5 : Try.prog.cellsOf 5 = 1 := by kernel_rfl
theorem c21 : Try.prog.cellsOf 21 = 1 := by kernel_rfl
theorem c3 : Try.prog.cellsOf 3 = 1 := by kernel_rfl

theorem three {α : Type} {cs : List α} (h : cs.length = 3) : ∃ c0 c1 c2, cs = [c0, c1, c2] := by
  match cs, h with
  | [c0, c1, c2], _ => exact ⟨c0, c1, c2, rfl⟩

theorem op_cells {H : Type} {enc : TypeId × Value → H} {w : World} {base : Nat} {spare : Nat → Bool} {held : Bool} {fuel : Nat} {cs : List Value} {x : DataW H × List MemPlace}
    (h : DataW.trod enc Try.prog w base spare held fuel 41 cs = some x) : ∃ k t x : Int, cs = [.int .u8 k, .int .i32 t, .int .i32 x] := by
  obtain ⟨y0, y1, y2, n, _, hl, g0, g1, g2⟩ := trod_struct3 Try.underlying41 h
  rw [c41] at hl
  obtain ⟨v0, v1, v2, rfl⟩ := three hl
  simp [c5] at g0
  simp [c21] at g1 g2
  obtain ⟨k, e0, _, _⟩ := DataW.trod_int Try.underlying5 g0
  obtain ⟨t, e1, _, _⟩ := DataW.trod_int Try.underlying21 g1
  obtain ⟨x, e2, _, _⟩ := DataW.trod_int Try.underlying21 g2
  simp at e0 e1 e2
  subst e0 e1 e2
  exact ⟨k, t, x, rfl⟩

theorem add_none (b off j : Nat) : (⟨b, off, none⟩ : Addr).add j = ⟨b, off + j, none⟩ := by unfold Addr.add; split <;> simp_all

theorem open_ops {H : Type} {enc : TypeId × Value → H} {W : World} {a : Option Addr} {len cap : Nat} {d : DataW H} {p : List MemPlace}
    (h : DataW.Trod enc Try.prog W 0 (fun _ => true) true 22 (.slice a len cap) d p) : ∃ K T X : Nat → Int, OpsIn W a len K T X := by
  obtain ⟨fuel, hf⟩ := h
  rcases open_slice Try.underlying22 hf with ⟨hcs, _⟩ | ⟨a', len', cap', m, n, D, Pl, hcs, _, hl, _, hmm, _, hel⟩
  · simp [Value.cells] at hcs
    obtain ⟨rfl, rfl, rfl⟩ := hcs
    exact ⟨fun _ => 0, fun _ => 0, fun _ => 0, fun h => by omega⟩
  · simp [Value.cells] at hcs
    obtain ⟨rfl, rfl, rfl⟩ := hcs
    simp at hmm
    subst hmm
    obtain ⟨f, hf2⟩ := choose_lt (α := Int × Int × Int) (n := m) (p := fun i v => W.cell? (a'.add (i * 3)) = some (.int .u8 v.1) ∧ W.cell? ((a'.add (i * 3)).add 1) = some (.int .i32 v.2.1) ∧ W.cell? ((a'.add (i * 3)).add 2) = some (.int .i32 v.2.2)) (fun i hi => by
      obtain ⟨cs', h1, h2⟩ := hel i hi
      rw [c41] at h1
      obtain ⟨k, t, x, rfl⟩ := op_cells h2
      obtain ⟨_, _, hc⟩ := World.cells?_some h1
      exact ⟨(k, t, x), by simpa [Addr.add] using hc 0 (by omega), by simpa using hc 1 (by omega), by simpa using hc 2 (by omega)⟩)
    refine ⟨fun i => (f i).1, fun i => (f i).2.1, fun i => (f i).2.2, fun hn => ?_⟩
    obtain ⟨b, off, spot⟩ := a'
    have h0 := (hf2 0 (by omega)).1
    have hspot : spot = none := by simpa [Addr.add] using World.cell?_spot h0
    subst hspot
    refine ⟨b, off, rfl, ?_, fun i hi => ?_⟩
    · exact World.block_lt_of_cell? W ⟨b, off, none⟩ (by simpa [Addr.add] using h0)
    · obtain ⟨e0, e1, e2⟩ := hf2 i (by omega)
      simp only [add_none] at e0 e1 e2
      exact ⟨e0, e1, e2⟩

theorem open_sc {H : Type} {enc : TypeId × Value → H} {W : World} {a : Option Addr} {len cap : Nat} {d : DataW H} {p : List MemPlace}
    (h : DataW.Trod enc Try.prog W 0 (fun _ => true) true 23 (.slice a len cap) d p) : ∃ Z : Nat → Int, ScZ W a len Z := by
  obtain ⟨fuel, hf⟩ := h
  rcases open_ints Try.underlying23 Try.underlying3 c3 hf with ⟨hcs, _⟩ | ⟨a', len', cap', zs, hcs, _, hl, _, hz, _, hcell, _⟩
  · simp [Value.cells] at hcs
    obtain ⟨rfl, rfl, rfl⟩ := hcs
    exact ⟨fun _ => 0, fun h => by omega⟩
  · simp [Value.cells] at hcs
    obtain ⟨rfl, rfl, rfl⟩ := hcs
    simp at hz
    refine ⟨fun i => zs.getD i 0, fun hn => ?_⟩
    obtain ⟨b, off, spot⟩ := a'
    have h0 := hcell 0 (by omega)
    have hspot : spot = none := by simpa [Addr.add] using World.cell?_spot h0
    subst hspot
    refine ⟨b, off, rfl, ?_, fun i hi => ?_⟩
    · exact World.block_lt_of_cell? W ⟨b, off, none⟩ (by simpa [Addr.add] using h0)
    · have e := hcell i (by omega)
      rw [add_none] at e
      exact e

theorem own : ownKnob Try.prog.godebug = none := by kernel_rfl
theorem laidOut : laidOutB Try.prog = true := by kernel_rfl

theorem law_all (a0 a1 a2 : Option Addr) (n0 c0 n1 c1 n2 c2 : Nat) (K T X KP TP XP Z : Nat → Int) (w : World)
    (hops : OpsIn w a0 n0 K T X) (hpre : OpsIn w a1 n1 KP TP XP) (hsc : ScZ w a2 n2 Z) :
    Calls Try.prog 3 #[.slice a0 n0 c0, .slice a1 n1 c1, .slice a2 n2 c2] w fun e w' => e = .returned (.bool true) ∧ Below w.heap.size w w' := by
  by_cases h0 : n0 ≤ 65536
  · by_cases h1 : n1 ≤ 65536
    · by_cases h2 : n2 ≤ 65536
      · exact law_any a0 a1 a2 n0 c0 n1 c1 n2 c2 K T X KP TP XP Z w h0 h1 h2 hops hpre hsc
      · exact law_long a0 a1 a2 n0 c0 n1 c1 n2 c2 w (.inr (.inr ⟨h0, h1, by omega⟩))
    · exact law_long a0 a1 a2 n0 c0 n1 c1 n2 c2 w (.inr (.inl ⟨h0, by omega⟩))
  · exact law_long a0 a1 a2 n0 c0 n1 c1 n2 c2 w (.inl (by omega))

set_option maxRecDepth 100000 in
theorem lifted (os : Os) (started : os.Started) (H : Type) (enc : TypeId × Value → H) :
    ReturnsInHanded {} Try.checked os 3 .any (Rows.fnSchedulerDoAppendsEachOperationUnderRigorousLockingSpec.pre6 enc Try.prog Try.f3 Rows.fnSchedulerDoAppendsEachOperationUnderRigorousLockingRow.domain false) (Rows.fnSchedulerDoAppendsEachOperationUnderRigorousLockingSpec.post enc Try.prog Try.f3 false true false false) := by
  refine returnsInHanded_of_change (C := Try.checked) own started (by kernel_rfl) Try.func3
    (ChangeSpec.witness6 (enc := enc) (C := Try.checked) false ⟨#[], #[.slice none 0 0, .slice none 0 0, .slice none 0 0], []⟩ 8 (by kernel_rfl) (by kernel_rfl) (by kernel_rfl) (by kernel_rfl)) ?_
  intro W base args ds gs before hval0 hW hcnd _
  have hval : ∀ (j : Nat) t v, Try.f3.params[j]? = some t → args[j]? = some v → Value.okWide Try.prog W .any base t v := hval0
  have hW' := hW
  obtain ⟨p, q, hA0, hV, rfl, hfz, hnd⟩ := hW
  have hA : DataW.TrodAll enc Try.prog W 0 (fun _ => true) true Try.f3.params.toList args.toList ds p := hA0
  rw [Try.params3] at hA hval
  obtain ⟨v0, vs0, d0, ds0, p0, q0, hargs, rfl, rfl, h0, r0⟩ := trodAll_cons hA
  obtain ⟨v1, vs1, d1, ds1, p1, q1, rfl, rfl, rfl, h1, r1⟩ := trodAll_cons r0
  obtain ⟨v2, vs2, d2, ds2, p2, q2, rfl, rfl, rfl, h2, r2⟩ := trodAll_cons r1
  obtain ⟨rfl, rfl, rfl⟩ := trodAll_nil r2
  obtain rfl : args = #[v0, v1, v2] := by cases args; simp_all
  obtain ⟨rfl, rfl⟩ := trodVars_none hV
  obtain ⟨a0, n0, m0, rfl⟩ := okWide_slice Try.underlying22 (hval 0 22 v0 rfl rfl)
  obtain ⟨a1, n1, m1, rfl⟩ := okWide_slice Try.underlying22 (hval 1 22 v1 rfl rfl)
  obtain ⟨a2, n2, m2, rfl⟩ := okWide_slice Try.underlying23 (hval 2 23 v2 rfl rfl)
  have lt0 : ∀ x ∈ p0, x.block < W.heap.size := by obtain ⟨m, hm⟩ := h0; exact DataW.trod_lt m _ _ _ hm
  have lt1 : ∀ x ∈ p1, x.block < W.heap.size := by obtain ⟨m, hm⟩ := h1; exact DataW.trod_lt m _ _ _ hm
  have lt2 : ∀ x ∈ p2, x.block < W.heap.size := by obtain ⟨m, hm⟩ := h2; exact DataW.trod_lt m _ _ _ hm
  obtain ⟨K, T, X, g0⟩ := open_ops h0
  obtain ⟨KP, TP, XP, g1⟩ := open_ops h1
  obtain ⟨Z, g2⟩ := open_sc h2
  clear hA0 hval0
  refine (law_all a0 a1 a2 n0 m0 n1 m1 n2 m2 K T X KP TP XP Z W g0 g1 g2).mono fun e W' ⟨he, bel⟩ => ?_
  subst he
  exact ⟨_, rfl, _, _, _, [], _, [], hW', trodAll_mk1 (shut_bool Try.underlying4 _),
    (trodAll_cons_mk (Below.trod laidOut (by kernel_rfl) (of_decide_eq_true (by kernel_rfl)) h0 bel lt0)
      (trodAll_cons_mk (Below.trod laidOut (by kernel_rfl) (of_decide_eq_true (by kernel_rfl)) h1 bel lt1)
        (trodAll_cons_mk (Below.trod laidOut (by kernel_rfl) (of_decide_eq_true (by kernel_rfl)) h2 bel lt2) trodAll_mk0))), rfl, bel.frame _, fun h => by cases h⟩

theorem over : Rows.fnSchedulerDoAppendsEachOperationUnderRigorousLockingRow.holds Try.pinned (OpenSpec.ofChange Rows.fnSchedulerDoAppendsEachOperationUnderRigorousLockingSpec) :=
  OpenClaim.holds_of_wide 3 Try.f3 rfl rfl rfl rfl rfl rfl rfl ⟨rfl, rfl, rfl, rfl, rfl⟩ rfl rfl rfl rfl rfl (by kernel_rfl) Try.func3 (by kernel_rfl)
    (of_decide_eq_true (by kernel_rfl)) (by unfold Func.isWrapper; first | (rw [if_pos (by decide +kernel)]; kernel_rfl) | (rw [if_neg (by decide +kernel)]; exact ⟨rfl, rfl⟩))
    (fun os started H enc _ => lifted os started H enc)

theorem proved : Rows.FnSchedulerDoAppendsEachOperationUnderRigorousLockingSaid := over
#print axioms proved
end Go.Proofs.Qxb6614111a
