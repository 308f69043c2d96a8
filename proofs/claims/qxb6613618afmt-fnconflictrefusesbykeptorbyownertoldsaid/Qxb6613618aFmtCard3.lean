import Derived.Test.Qxb6613618aFmtCards
import Derived.Test.Qxb6613618aFmtLaw3n
import Derived.Test.Qxb6613618aFmtLaw3s
import Derived.Test.Qxb6613618aFmtOpens
namespace Go.Proofs.Qxb6613618aFmt
open Go.ChangeShapes Go.WideShapes Go.ChangeAt Go.RowKit
open Go.ChangeMaps (open_string shut_string)
open Go.Extern.Stop Go.Stop Go.Extern

theorem law3_any (F : Interp) (n1 : ByteArray) (s0 s1 s2 s3 s4 s5 s6 s7 : ByteArray) (t : Int) (v : Value) (ho hbu : Bool) (o0 o1 o2 o3 o4 o5 o6 o7 : ByteArray) (ot : Int) (W : World) (hF : F.answers W.tape)
    (hk : v = .pointer none ∨ ∃ (b o : Nat) (k0 k1 k2 k3 k4 k5 k6 k7 : ByteArray) (kt : Int), v = .pointer (some ⟨b, o, none⟩) ∧ b < W.heap.size ∧
      W.cell? ⟨b, o, none⟩ = some (.string k0) ∧ W.cell? ⟨b, o + 1, none⟩ = some (.string k1) ∧ W.cell? ⟨b, o + 2, none⟩ = some (.string k2) ∧ W.cell? ⟨b, o + 3, none⟩ = some (.string k3) ∧ W.cell? ⟨b, o + 4, none⟩ = some (.string k4) ∧ W.cell? ⟨b, o + 5, none⟩ = some (.string k5) ∧ W.cell? ⟨b, o + 6, none⟩ = some (.string k6) ∧ W.cell? ⟨b, o + 7, none⟩ = some (.string k7) ∧ W.cell? ⟨b, o + 8, none⟩ = some (.int .i64 kt)) :
    Calls Tryf.prog 3 #[.string n1, .agg #[.string s0, .string s1, .string s2, .string s3, .string s4, .string s5, .string s6, .string s7, .int .i64 t], v, .bool ho, .bool hbu, .agg #[.string o0, .string o1, .string o2, .string o3, .string o4, .string o5, .string o6, .string o7, .int .i64 ot]] W
      fun e w' => e = .returned (.bool true) ∧ Below W.heap.size W w' := by
  rcases hk with rfl | ⟨b, o, k0, k1, k2, k3, k4, k5, k6, k7, kt, rfl, hlt, c0, c1, c2, c3, c4, c5, c6, c7, c8⟩
  · exact law3_nil F n1 s0 s1 s2 s3 s4 s5 s6 s7 t ho hbu o0 o1 o2 o3 o4 o5 o6 o7 ot W hF
  · exact law3_some F n1 s0 s1 s2 s3 s4 s5 s6 s7 t ho hbu o0 o1 o2 o3 o4 o5 o6 o7 ot b o k0 k1 k2 k3 k4 k5 k6 k7 kt W hF c0 c1 c2 c3 c4 c5 c6 c7 c8 hlt

set_option maxRecDepth 100000 in
theorem lifted3 (os : Os) (started : os.Started) (H : Type) (enc : TypeId × Value → H) :
    ReturnsInTold none {} Tryf.checked os 3 .any Input.okWide ((OpenSpec.ofChange Rows.fnConflictRefusesByKeptOrByOwnerSpec).preRow enc Tryf.prog Tryf.f3 [] false []) (fun F => ((OpenSpec.ofChange Rows.fnConflictRefusesByKeptOrByOwnerSpec).at F).post enc Tryf.prog Tryf.f3 false true false false) (aloneAtReturn Tryf.prog) nothingAlways := by
  refine returnsInTold_of_row (C := Tryf.checked) (s := OpenSpec.ofChange Rows.fnConflictRefusesByKeptOrByOwnerSpec) (by kernel_rfl) own started (by kernel_rfl) Tryf.func3
    (OpenSpec.witness_stopped (enc := enc) (C := Tryf.checked) false ⟨#[], #[.string ⟨#[]⟩, .agg #[.string ⟨#[]⟩, .string ⟨#[]⟩, .string ⟨#[]⟩, .string ⟨#[]⟩, .string ⟨#[]⟩, .string ⟨#[]⟩, .string ⟨#[]⟩, .string ⟨#[]⟩, .int .i64 0], .pointer none, .bool false, .bool false, .agg #[.string ⟨#[]⟩, .string ⟨#[]⟩, .string ⟨#[]⟩, .string ⟨#[]⟩, .string ⟨#[]⟩, .string ⟨#[]⟩, .string ⟨#[]⟩, .string ⟨#[]⟩, .int .i64 0]], []⟩ 8 (by kernel_rfl) (by kernel_rfl) (by kernel_rfl) (by kernel_rfl)) ?_
  intro F W base args ds gs before _ hF hval0 hW _ _ _ _ _
  have hval : ∀ (j : Nat) t v, Tryf.f3.params[j]? = some t → args[j]? = some v → Value.okWide Tryf.prog W .any base t v := hval0
  have hW' := hW
  obtain ⟨p, q, hA0, hV, rfl, hfz, hnd⟩ := hW
  have hA : DataW.TrodAll enc Tryf.prog W 0 (fun _ => true) true Tryf.f3.params.toList args.toList ds p := hA0
  rw [Tryf.params3] at hA hval
  obtain ⟨v0, vs0, d0, ds0, p0, q0, hargs, rfl, rfl, h0, r0⟩ := trodAll_cons hA
  obtain ⟨v1, vs1, d1, ds1, p1, q1, rfl, rfl, rfl, h1, r1⟩ := trodAll_cons r0
  obtain ⟨v2, vs2, d2, ds2, p2, q2, rfl, rfl, rfl, h2, r2⟩ := trodAll_cons r1
  obtain ⟨v3, vs3, d3, ds3, p3, q3, rfl, rfl, rfl, h3, r3⟩ := trodAll_cons r2
  obtain ⟨v4, vs4, d4, ds4, p4, q4, rfl, rfl, rfl, h4, r4⟩ := trodAll_cons r3
  obtain ⟨v5, vs5, d5, ds5, p5, q5, rfl, rfl, rfl, h5, r5⟩ := trodAll_cons r4
  obtain ⟨rfl, rfl, rfl⟩ := trodAll_nil r5
  obtain rfl : args = #[v0, v1, v2, v3, v4, v5] := by cases args; simp_all
  obtain ⟨rfl, rfl⟩ := trodVars_none hV
  have k0 := h0
  have lt0 : ∀ x ∈ p0, x.block < W.heap.size := by obtain ⟨m, hm⟩ := k0; exact DataW.trod_lt m _ _ _ hm
  have k1 := h1
  have lt1 : ∀ x ∈ p1, x.block < W.heap.size := by obtain ⟨m, hm⟩ := k1; exact DataW.trod_lt m _ _ _ hm
  have k2 := h2
  have lt2 : ∀ x ∈ p2, x.block < W.heap.size := by obtain ⟨m, hm⟩ := k2; exact DataW.trod_lt m _ _ _ hm
  have k3 := h3
  have lt3 : ∀ x ∈ p3, x.block < W.heap.size := by obtain ⟨m, hm⟩ := k3; exact DataW.trod_lt m _ _ _ hm
  have k4 := h4
  have lt4 : ∀ x ∈ p4, x.block < W.heap.size := by obtain ⟨m, hm⟩ := k4; exact DataW.trod_lt m _ _ _ hm
  have k5 := h5
  have lt5 : ∀ x ∈ p5, x.block < W.heap.size := by obtain ⟨m, hm⟩ := k5; exact DataW.trod_lt m _ _ _ hm
  obtain ⟨n1, e0, _, _, _⟩ := open_string Tryf.underlying9 (hval 0 9 v0 rfl rfl) h0
  obtain ⟨s0, s1, s2, s3, s4, s5, s6, s7, t, e1⟩ := open_act (hval 1 23 v1 rfl rfl) h1
  have hk := open_kept (hval 2 24 v2 rfl rfl) h2
  obtain ⟨ho, e3, _, _⟩ := open_bool Tryf.underlying4 (hval 3 4 v3 rfl rfl) h3
  obtain ⟨hbu, e4, _, _⟩ := open_bool Tryf.underlying4 (hval 4 4 v4 rfl rfl) h4
  obtain ⟨o0, o1, o2, o3, o4, o5, o6, o7, ot, e5⟩ := open_act (hval 5 23 v5 rfl rfl) h5
  subst e0 e1 e3 e4 e5
  clear hA0 hval0
  refine (law3_any F.told n1 s0 s1 s2 s3 s4 s5 s6 s7 t v2 ho hbu o0 o1 o2 o3 o4 o5 o6 o7 ot W hF hk).mono fun e W' ⟨he, bel⟩ => ?_
  subst he
  exact ⟨_, rfl, _, _, _, [], _, [], hW', trodAll_mk1 (shut_bool Tryf.underlying4 _),
    (trodAll_cons_mk (Below.trod laidOut (by kernel_rfl) (of_decide_eq_true (by kernel_rfl)) k0 bel lt0) (trodAll_cons_mk (Below.trod laidOut (by kernel_rfl) (of_decide_eq_true (by kernel_rfl)) k1 bel lt1) (trodAll_cons_mk (Below.trod laidOut (by kernel_rfl) (of_decide_eq_true (by kernel_rfl)) k2 bel lt2) (trodAll_cons_mk (Below.trod laidOut (by kernel_rfl) (of_decide_eq_true (by kernel_rfl)) k3 bel lt3) (trodAll_cons_mk (Below.trod laidOut (by kernel_rfl) (of_decide_eq_true (by kernel_rfl)) k4 bel lt4) (trodAll_cons_mk (Below.trod laidOut (by kernel_rfl) (of_decide_eq_true (by kernel_rfl)) k5 bel lt5) trodAll_mk0)))))), rfl, bel.frame _, fun h => by cases h⟩

theorem card3_holds : Rows.FnConflictRefusesByKeptOrByOwnerToldSaid :=
  Claim7.holds_of_told_any 3 Tryf.f3 "fmt.errorf" ["fmt.Sprintf"] [] _ _ _ (by kernel_rfl) rfl rfl rfl laidOut (by kernel_rfl) rfl ⟨rfl, rfl, rfl, rfl, rfl, rfl, rfl⟩ rfl rfl (by kernel_rfl) (by kernel_rfl) Tryf.func3 (by kernel_rfl)
    (of_decide_eq_true (by kernel_rfl)) (of_decide_eq_true (by kernel_rfl)) (by kernel_rfl) rfl stopKnobs.symm (by kernel_rfl)
    (by kernel_rfl) (by kernel_rfl) (by kernel_rfl) (by kernel_rfl) (by kernel_rfl) (by kernel_rfl) (by kernel_rfl) (by kernel_rfl) (by kernel_rfl) rfl (by kernel_rfl) rfl rfl
    rfl rfl
    rfl (by kernel_rfl) (by kernel_rfl) (by kernel_rfl) (by decide) (by kernel_rfl)
    (OpenClaim.moreEntering_of (by kernel_rfl) (by kernel_rfl) (by kernel_rfl) (by kernel_rfl) (by kernel_rfl) (by kernel_rfl) (by kernel_rfl) (by kernel_rfl) (by kernel_rfl) (by kernel_rfl))
    ⟨_, WideRow.started_initial, quiet _⟩
    (fun os started _ H enc _ => lifted3 os started H enc)

#print axioms card3_holds
end Go.Proofs.Qxb6613618aFmt
