import Derived.Test.Qxb6613618aFmtCards
import Derived.Test.Qxb6613618aFmtLaw4
import Derived.Test.Qxb6613618aFmtOpens
namespace Go.Proofs.Qxb6613618aFmt
open Go.ChangeShapes Go.WideShapes Go.ChangeAt Go.RowKit
open Go.ChangeMaps (open_string shut_string)
open Go.Extern.Stop Go.Stop Go.Extern

theorem law4_any (F : Interp) (n1 n2 : ByteArray) (s0 s1 s2 s3 s4 s5 s6 s7 : ByteArray) (t : Int) (v : Value) (W : World) (hF : F.answers W.tape)
    (hk : v = .pointer none ∨ ∃ (b o : Nat) (k0 k1 k2 k3 k4 k5 k6 k7 : ByteArray) (kt : Int), v = .pointer (some ⟨b, o, none⟩) ∧ b < W.heap.size ∧
      W.cell? ⟨b, o, none⟩ = some (.string k0) ∧ W.cell? ⟨b, o + 1, none⟩ = some (.string k1) ∧ W.cell? ⟨b, o + 2, none⟩ = some (.string k2) ∧ W.cell? ⟨b, o + 3, none⟩ = some (.string k3) ∧ W.cell? ⟨b, o + 4, none⟩ = some (.string k4) ∧ W.cell? ⟨b, o + 5, none⟩ = some (.string k5) ∧ W.cell? ⟨b, o + 6, none⟩ = some (.string k6) ∧ W.cell? ⟨b, o + 7, none⟩ = some (.string k7) ∧ W.cell? ⟨b, o + 8, none⟩ = some (.int .i64 kt)) :
    Calls Tryf.prog 4 #[.string n1, .string n2, .agg #[.string s0, .string s1, .string s2, .string s3, .string s4, .string s5, .string s6, .string s7, .int .i64 t], v] W
      fun e w' => e = .returned (.bool true) ∧ Below W.heap.size W w' := by
  rcases hk with rfl | ⟨b, o, k0, k1, k2, k3, k4, k5, k6, k7, kt, rfl, hlt, c0, c1, c2, c3, c4, c5, c6, c7, c8⟩
  · exact law4_nil F n1 n2 s0 s1 s2 s3 s4 s5 s6 s7 t W hF
  · cases hd5 : (k5.toList == s5.toList) with
    | false => exact law4_diff F n1 n2 s0 s1 s2 s3 s4 s5 s6 s7 t b o k0 k1 k2 k3 k4 k5 k6 k7 kt W hF c0 c1 c2 c3 c4 c5 c6 c7 c8 hlt hd5
    | true =>
      cases hd1 : (k1.toList == s1.toList) with
      | true => exact law4_own F n1 n2 s0 s1 s2 s3 s4 s5 s6 s7 t b o k0 k1 k2 k3 k4 k5 k6 k7 kt W hF c0 c1 c2 c3 c4 c5 c6 c7 c8 hlt hd5 hd1
      | false => exact law4_oth F n1 n2 s0 s1 s2 s3 s4 s5 s6 s7 t b o k0 k1 k2 k3 k4 k5 k6 k7 kt W hF c0 c1 c2 c3 c4 c5 c6 c7 c8 hlt hd5 hd1

set_option maxRecDepth 100000 in
theorem lifted4 (os : Os) (started : os.Started) (H : Type) (enc : TypeId × Value → H) :
    ReturnsInTold none {} Tryf.checked os 4 .any Input.okWide ((OpenSpec.ofChange Rows.fnConflictBuiltinOwnerRefusesAndOwnActionRenewsSpec).preRow enc Tryf.prog Tryf.f4 [] false []) (fun F => ((OpenSpec.ofChange Rows.fnConflictBuiltinOwnerRefusesAndOwnActionRenewsSpec).at F).post enc Tryf.prog Tryf.f4 false true false false) (aloneAtReturn Tryf.prog) nothingAlways := by
  refine returnsInTold_of_row (C := Tryf.checked) (s := OpenSpec.ofChange Rows.fnConflictBuiltinOwnerRefusesAndOwnActionRenewsSpec) (by kernel_rfl) own started (by kernel_rfl) Tryf.func4
    (OpenSpec.witness_stopped (enc := enc) (C := Tryf.checked) false ⟨#[], #[.string ⟨#[]⟩, .string ⟨#[]⟩, .agg #[.string ⟨#[]⟩, .string ⟨#[]⟩, .string ⟨#[]⟩, .string ⟨#[]⟩, .string ⟨#[]⟩, .string ⟨#[]⟩, .string ⟨#[]⟩, .string ⟨#[]⟩, .int .i64 0], .pointer none], []⟩ 8 (by kernel_rfl) (by kernel_rfl) (by kernel_rfl) (by kernel_rfl)) ?_
  intro F W base args ds gs before _ hF hval0 hW _ _ _ _ _
  have hval : ∀ (j : Nat) t v, Tryf.f4.params[j]? = some t → args[j]? = some v → Value.okWide Tryf.prog W .any base t v := hval0
  have hW' := hW
  obtain ⟨p, q, hA0, hV, rfl, hfz, hnd⟩ := hW
  have hA : DataW.TrodAll enc Tryf.prog W 0 (fun _ => true) true Tryf.f4.params.toList args.toList ds p := hA0
  rw [Tryf.params4] at hA hval
  obtain ⟨v0, vs0, d0, ds0, p0, q0, hargs, rfl, rfl, h0, r0⟩ := trodAll_cons hA
  obtain ⟨v1, vs1, d1, ds1, p1, q1, rfl, rfl, rfl, h1, r1⟩ := trodAll_cons r0
  obtain ⟨v2, vs2, d2, ds2, p2, q2, rfl, rfl, rfl, h2, r2⟩ := trodAll_cons r1
  obtain ⟨v3, vs3, d3, ds3, p3, q3, rfl, rfl, rfl, h3, r3⟩ := trodAll_cons r2
  obtain ⟨rfl, rfl, rfl⟩ := trodAll_nil r3
  obtain rfl : args = #[v0, v1, v2, v3] := by cases args; simp_all
  obtain ⟨rfl, rfl⟩ := trodVars_none hV
  have k0 := h0
  have k1 := h1
  have k2 := h2
  have k3 := h3
  have lt0 : ∀ x ∈ p0, x.block < W.heap.size := by obtain ⟨m, hm⟩ := k0; exact DataW.trod_lt m _ _ _ hm
  have lt1 : ∀ x ∈ p1, x.block < W.heap.size := by obtain ⟨m, hm⟩ := k1; exact DataW.trod_lt m _ _ _ hm
  have lt2 : ∀ x ∈ p2, x.block < W.heap.size := by obtain ⟨m, hm⟩ := k2; exact DataW.trod_lt m _ _ _ hm
  have lt3 : ∀ x ∈ p3, x.block < W.heap.size := by obtain ⟨m, hm⟩ := k3; exact DataW.trod_lt m _ _ _ hm
  obtain ⟨n1, e0, _, _, _⟩ := open_string Tryf.underlying9 (hval 0 9 v0 rfl rfl) h0
  obtain ⟨n2, e1, _, _, _⟩ := open_string Tryf.underlying9 (hval 1 9 v1 rfl rfl) h1
  obtain ⟨s0, s1, s2, s3, s4, s5, s6, s7, t, e2⟩ := open_act (hval 2 23 v2 rfl rfl) h2
  have hk := open_kept (hval 3 24 v3 rfl rfl) h3
  subst e0 e1 e2
  clear hA0 hval0
  refine (law4_any F.told n1 n2 s0 s1 s2 s3 s4 s5 s6 s7 t v3 W hF hk).mono fun e W' ⟨he, bel⟩ => ?_
  subst he
  exact ⟨_, rfl, _, _, _, [], _, [], hW', trodAll_mk1 (shut_bool Tryf.underlying4 _),
    (trodAll_cons_mk (Below.trod laidOut (by kernel_rfl) (of_decide_eq_true (by kernel_rfl)) k0 bel lt0)
      (trodAll_cons_mk (Below.trod laidOut (by kernel_rfl) (of_decide_eq_true (by kernel_rfl)) k1 bel lt1)
        (trodAll_cons_mk (Below.trod laidOut (by kernel_rfl) (of_decide_eq_true (by kernel_rfl)) k2 bel lt2)
          (trodAll_cons_mk (Below.trod laidOut (by kernel_rfl) (of_decide_eq_true (by kernel_rfl)) k3 bel lt3) trodAll_mk0)))), rfl, bel.frame _, fun h => by cases h⟩

theorem card4_holds : Rows.FnConflictBuiltinOwnerRefusesAndOwnActionRenewsToldSaid :=
  Claim7.holds_of_told_any 4 Tryf.f4 "fmt.errorf" ["fmt.Sprintf"] [] _ _ _ (by kernel_rfl) rfl rfl rfl laidOut (by kernel_rfl) rfl ⟨rfl, rfl, rfl, rfl, rfl, rfl, rfl⟩ rfl rfl (by kernel_rfl) (by kernel_rfl) Tryf.func4 (by kernel_rfl)
    (of_decide_eq_true (by kernel_rfl)) (of_decide_eq_true (by kernel_rfl)) (by kernel_rfl) rfl stopKnobs.symm (by kernel_rfl)
    (by kernel_rfl) (by kernel_rfl) (by kernel_rfl) (by kernel_rfl) (by kernel_rfl) (by kernel_rfl) (by kernel_rfl) (by kernel_rfl) (by kernel_rfl) rfl (by kernel_rfl) rfl rfl
    rfl rfl
    rfl (by kernel_rfl) (by kernel_rfl) (by kernel_rfl) (by decide) (by kernel_rfl)
    (OpenClaim.moreEntering_of (by kernel_rfl) (by kernel_rfl) (by kernel_rfl) (by kernel_rfl) (by kernel_rfl) (by kernel_rfl) (by kernel_rfl) (by kernel_rfl) (by kernel_rfl) (by kernel_rfl))
    ⟨_, WideRow.started_initial, quiet _⟩
    (fun os started _ H enc _ => lifted4 os started H enc)

#print axioms card4_holds
end Go.Proofs.Qxb6613618aFmt
