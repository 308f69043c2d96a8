import Derived.Test.Qxb6613618aFmtRefuses
import Derived.Test.Qxb6613618aFmtZz5
import Derived.Test.Qxb6613618aFmtLaw4
import Derived.Deep.DeepMust
namespace Go.Proofs.Qxb6613618aFmt
open Go.ChangeShapes Go.WideShapes Go.ChangeAt Go.RowKit
open Go.Extern.Stop Go.Stop Go.Extern

set_option maxHeartbeats 8000000 in
set_option maxRecDepth 100000 in
theorem law3_some (F : Interp) (n1 : ByteArray) (s0 s1 s2 s3 s4 s5 s6 s7 : ByteArray) (t : Int) (ho hbu : Bool) (o0 o1 o2 o3 o4 o5 o6 o7 : ByteArray) (ot : Int) (bk ok : Nat) (k0 k1 k2 k3 k4 k5 k6 k7 : ByteArray) (kt : Int) (w : World) (hF : F.answers w.tape) (hk0 : w.cell? ⟨bk, ok, none⟩ = some (.string k0)) (hk1 : w.cell? ⟨bk, ok + 1, none⟩ = some (.string k1)) (hk2 : w.cell? ⟨bk, ok + 2, none⟩ = some (.string k2)) (hk3 : w.cell? ⟨bk, ok + 3, none⟩ = some (.string k3)) (hk4 : w.cell? ⟨bk, ok + 4, none⟩ = some (.string k4)) (hk5 : w.cell? ⟨bk, ok + 5, none⟩ = some (.string k5)) (hk6 : w.cell? ⟨bk, ok + 6, none⟩ = some (.string k6)) (hk7 : w.cell? ⟨bk, ok + 7, none⟩ = some (.string k7)) (hk8 : w.cell? ⟨bk, ok + 8, none⟩ = some (.int .i64 kt)) (hl : bk < w.heap.size) :
    Calls Tryf.prog 3 #[.string n1, .agg #[.string s0, .string s1, .string s2, .string s3, .string s4, .string s5, .string s6, .string s7, .int .i64 t], .pointer (some ⟨bk, ok, none⟩), .bool ho, .bool hbu, .agg #[.string o0, .string o1, .string o2, .string o3, .string o4, .string o5, .string o6, .string o7, .int .i64 ot]] w fun e w' => e = .returned (.bool true) ∧ Below w.heap.size w w' := by
  have l1 : bk < w.heap.size + 1 := by omega
  have l2 : bk < w.heap.size + 1 + 1 := by omega
  go_enter Tryf.func3, Tryf.ntmps3
  go_wp2_with (first
    | (go_at_call 5; refine (zz5_some n1 s0 s1 s2 s3 s4 s5 s6 s7 t ho hbu o0 o1 o2 o3 o4 o5 o6 o7 ot bk ok k0 k1 k2 k3 k4 k5 k6 k7 _ (by go_simp) (by go_simp) (by go_simp) (by go_simp) (by go_simp) (by go_simp) (by go_simp) (by go_simp) (by simp; omega)).mono ?_; rintro e w1 ⟨⟨b, rfl⟩, hb⟩; have hz := hb.size; have hc := bcell hb; (try simp at hz); have hz0 : w.heap.size < w1.heap.size := (by omega); have hz00 : w.heap.size + 1 < w1.heap.size := (by omega); have hlb : bk < w1.heap.size := (by omega); have hB := below2_trans hb; clear hb)
    | (go_at_call_of 6 s0; refine (actBytes_any s0 s1 s2 s3 s4 s5 s6 s7 t _).mono ?_; rintro e w1 ⟨⟨n, rfl⟩, hb⟩; have hz := hb.size; have hc := bcell hb; (try simp at hz); have hz0 : w.heap.size < w1.heap.size := (by omega); have hz00 : w.heap.size + 1 < w1.heap.size := (by omega); have hlb : bk < w1.heap.size := (by omega); have hB : Below w.heap.size w w1 := (by first | exact below_more hB hb | exact below_more1 hB hb); clear hb)
    | (go_at_call_of 6 o0; refine (actBytes_any o0 o1 o2 o3 o4 o5 o6 o7 ot _).mono ?_; rintro e w1 ⟨⟨n, rfl⟩, hb⟩; have hz := hb.size; have hc := bcell hb; (try simp at hz); have hz0 : w.heap.size < w1.heap.size := (by omega); have hz00 : w.heap.size + 1 < w1.heap.size := (by omega); have hlb : bk < w1.heap.size := (by omega); have hB : Below w.heap.size w w1 := (by first | exact below_more hB hb | exact below_more1 hB hb); clear hb)
    | (go_at_call_of 7 s0; refine (toAction_any s0 s1 s2 s3 s4 s5 s6 s7 t _).mono ?_; rintro e wa ⟨rfl, hb⟩; have hz := hb.size; have hc := bcell hb; (try simp at hz); have hz0 : w.heap.size < wa.heap.size := (by omega); have hz00 : w.heap.size + 1 < wa.heap.size := (by omega); have hlb : bk < wa.heap.size := (by omega); have hB : Below w.heap.size w wa := (by first | exact below_more hB hb | exact below_more1 hB hb); clear hb)
    | (go_at_call_of 7 o0; refine (toAction_any o0 o1 o2 o3 o4 o5 o6 o7 ot _).mono ?_; rintro e wo ⟨rfl, hb⟩; have hz := hb.size; have hc := bcell hb; (try simp at hz); have hz0 : w.heap.size < wo.heap.size := (by omega); have hz00 : w.heap.size + 1 < wo.heap.size := (by omega); have h_wa : wa.heap.size < wo.heap.size := (by omega); have hlb : bk < wo.heap.size := (by omega); have hB : Below w.heap.size w wo := (by first | exact below_more hB hb | exact below_more1 hB hb); clear hb)
    | (go_at_call_of 6 k0; refine (actBytes_any k0 k1 k2 k3 k4 k5 k6 k7 kt _).mono ?_; rintro e w1 ⟨⟨n, rfl⟩, hb⟩; have hz := hb.size; have hc := bcell hb; (try simp at hz); have hz0 : w.heap.size < w1.heap.size := (by omega); have hz00 : w.heap.size + 1 < w1.heap.size := (by omega); have hlb : bk < w1.heap.size := (by omega); have hB : Below w.heap.size w w1 := (by first | exact below_more hB hb | exact below_more1 hB hb); clear hb)
    | (go_at_call_of 7 k0; refine (toAction_any k0 k1 k2 k3 k4 k5 k6 k7 kt _).mono ?_; rintro e wk ⟨rfl, hb⟩; have hz := hb.size; have hc := bcell hb; (try simp at hz); have hz0 : w.heap.size < wk.heap.size := (by omega); have hz00 : w.heap.size + 1 < wk.heap.size := (by omega); have h_wa : wa.heap.size < wk.heap.size := (by omega); have h_wo : wo.heap.size < wk.heap.size := (by omega); have hlb : bk < wk.heap.size := (by omega); have hB : Below w.heap.size w wk := (by first | exact below_more hB hb | exact below_more1 hB hb); clear hb)
    | (go_at_call_of 8 (Value.pointer none); refine (refuses_any F _ s0 s1 s2 s3 s4 s5 s6 s7 t o0 o1 o2 o3 o4 o5 o6 o7 ot _ none _ _ _ (by have hFt := tape_of hB hF; exact hFt) rfl).mono ?_; rintro e w1 ⟨rfl, hb⟩; have hz := hb.size; have hc := bcell hb; (try simp at hz); have hz0 : w.heap.size < w1.heap.size := (by omega); have hz00 : w.heap.size + 1 < w1.heap.size := (by omega); have h_wa : wa.heap.size < w1.heap.size := (by omega); have h_wo : wo.heap.size < w1.heap.size := (by omega); have h_wk : wk.heap.size < w1.heap.size := (by omega); have hlb : bk < w1.heap.size := (by omega); have hB : Below w.heap.size w w1 := (by first | exact below_more hB hb | exact below_more1 hB hb); clear hb)
    | (go_at_call 8; refine (refuses_any F _ s0 s1 s2 s3 s4 s5 s6 s7 t o0 o1 o2 o3 o4 o5 o6 o7 ot _ (some k5) _ _ _ (by have hFt := tape_of hB hF; exact hFt) ⟨wk.heap.size, rfl, by go_simp, by first | omega | (simp <;> omega)⟩).mono ?_; rintro e w1 ⟨rfl, hb⟩; have hz := hb.size; have hc := bcell hb; (try simp at hz); have hz0 : w.heap.size < w1.heap.size := (by omega); have hz00 : w.heap.size + 1 < w1.heap.size := (by omega); have h_wa : wa.heap.size < w1.heap.size := (by omega); have h_wo : wo.heap.size < w1.heap.size := (by omega); have h_wk : wk.heap.size < w1.heap.size := (by omega); have hlb : bk < w1.heap.size := (by omega); have hB : Below w.heap.size w w1 := (by first | exact below_more hB hb | exact below_more1 hB hb); clear hb))
  all_goals try (go_ret; exact ⟨rfl, hB⟩)
  cases hd1 : (o1.toList == s1.toList) with
  | true =>
    cases hd5 : (k5.toList == s5.toList) with
    | true =>
      cases ho with
      | true =>
        cases hbu with
        | true =>
          have r1 : refB (some k5) s5 true true o1 s1 = true := by simp [refB, keptB, *]
          have r2 : refB (some k5) s5 false false o1 s1 = false := by simp [refB, keptB, *]
          have r3 : refB none s5 true true o1 s1 = true := by simp [refB, keptB, *]
          go_quiet (fail)
          go_wp2
          go_ret
          exact ⟨rfl, below_drewN hB _⟩
        | false =>
          have r1 : refB (some k5) s5 true false o1 s1 = false := by simp [refB, keptB, *]
          have r2 : refB (some k5) s5 false false o1 s1 = false := by simp [refB, keptB, *]
          have r3 : refB none s5 true false o1 s1 = false := by simp [refB, keptB, *]
          go_quiet (fail)
          go_wp2
          go_ret
          exact ⟨rfl, below_drewN hB _⟩
      | false =>
        cases hbu with
        | true =>
          have r1 : refB (some k5) s5 false true o1 s1 = false := by simp [refB, keptB, *]
          have r2 : refB (some k5) s5 false false o1 s1 = false := by simp [refB, keptB, *]
          have r3 : refB none s5 false true o1 s1 = false := by simp [refB, keptB, *]
          go_quiet (fail)
          go_wp2
          go_ret
          exact ⟨rfl, below_drewN hB _⟩
        | false =>
          have r1 : refB (some k5) s5 false false o1 s1 = false := by simp [refB, keptB, *]
          have r3 : refB none s5 false false o1 s1 = false := by simp [refB, keptB, *]
          go_quiet (fail)
          go_wp2
          go_ret
          exact ⟨rfl, below_drewN hB _⟩
    | false =>
      cases ho with
      | true =>
        cases hbu with
        | true =>
          have r1 : refB (some k5) s5 true true o1 s1 = true := by simp [refB, keptB, *]
          have r2 : refB (some k5) s5 false false o1 s1 = true := by simp [refB, keptB, *]
          have r3 : refB none s5 true true o1 s1 = true := by simp [refB, keptB, *]
          go_quiet (fail)
          go_wp2
          go_ret
          exact ⟨rfl, below_drewN hB _⟩
        | false =>
          have r1 : refB (some k5) s5 true false o1 s1 = true := by simp [refB, keptB, *]
          have r2 : refB (some k5) s5 false false o1 s1 = true := by simp [refB, keptB, *]
          have r3 : refB none s5 true false o1 s1 = false := by simp [refB, keptB, *]
          go_quiet (fail)
          go_wp2
          go_ret
          exact ⟨rfl, below_drewN hB _⟩
      | false =>
        cases hbu with
        | true =>
          have r1 : refB (some k5) s5 false true o1 s1 = true := by simp [refB, keptB, *]
          have r2 : refB (some k5) s5 false false o1 s1 = true := by simp [refB, keptB, *]
          have r3 : refB none s5 false true o1 s1 = false := by simp [refB, keptB, *]
          go_quiet (fail)
          go_wp2
          go_ret
          exact ⟨rfl, below_drewN hB _⟩
        | false =>
          have r1 : refB (some k5) s5 false false o1 s1 = true := by simp [refB, keptB, *]
          have r3 : refB none s5 false false o1 s1 = false := by simp [refB, keptB, *]
          go_quiet (fail)
          go_wp2
          go_ret
          exact ⟨rfl, below_drewN hB _⟩
  | false =>
    cases hd5 : (k5.toList == s5.toList) with
    | true =>
      cases ho with
      | true =>
        cases hbu with
        | true =>
          have r1 : refB (some k5) s5 true true o1 s1 = true := by simp [refB, keptB, *]
          have r2 : refB (some k5) s5 false false o1 s1 = false := by simp [refB, keptB, *]
          have r3 : refB none s5 true true o1 s1 = true := by simp [refB, keptB, *]
          go_quiet (fail)
          go_wp2
          go_ret
          exact ⟨rfl, below_drewN hB _⟩
        | false =>
          have r1 : refB (some k5) s5 true false o1 s1 = true := by simp [refB, keptB, *]
          have r2 : refB (some k5) s5 false false o1 s1 = false := by simp [refB, keptB, *]
          have r3 : refB none s5 true false o1 s1 = true := by simp [refB, keptB, *]
          go_quiet (fail)
          go_wp2
          go_ret
          exact ⟨rfl, below_drewN hB _⟩
      | false =>
        cases hbu with
        | true =>
          have r1 : refB (some k5) s5 false true o1 s1 = false := by simp [refB, keptB, *]
          have r2 : refB (some k5) s5 false false o1 s1 = false := by simp [refB, keptB, *]
          have r3 : refB none s5 false true o1 s1 = false := by simp [refB, keptB, *]
          go_quiet (fail)
          go_wp2
          go_ret
          exact ⟨rfl, below_drewN hB _⟩
        | false =>
          have r1 : refB (some k5) s5 false false o1 s1 = false := by simp [refB, keptB, *]
          have r3 : refB none s5 false false o1 s1 = false := by simp [refB, keptB, *]
          go_quiet (fail)
          go_wp2
          go_ret
          exact ⟨rfl, below_drewN hB _⟩
    | false =>
      cases ho with
      | true =>
        cases hbu with
        | true =>
          have r1 : refB (some k5) s5 true true o1 s1 = true := by simp [refB, keptB, *]
          have r2 : refB (some k5) s5 false false o1 s1 = true := by simp [refB, keptB, *]
          have r3 : refB none s5 true true o1 s1 = true := by simp [refB, keptB, *]
          go_quiet (fail)
          go_wp2
          go_ret
          exact ⟨rfl, below_drewN hB _⟩
        | false =>
          have r1 : refB (some k5) s5 true false o1 s1 = true := by simp [refB, keptB, *]
          have r2 : refB (some k5) s5 false false o1 s1 = true := by simp [refB, keptB, *]
          have r3 : refB none s5 true false o1 s1 = true := by simp [refB, keptB, *]
          go_quiet (fail)
          go_wp2
          go_ret
          exact ⟨rfl, below_drewN hB _⟩
      | false =>
        cases hbu with
        | true =>
          have r1 : refB (some k5) s5 false true o1 s1 = true := by simp [refB, keptB, *]
          have r2 : refB (some k5) s5 false false o1 s1 = true := by simp [refB, keptB, *]
          have r3 : refB none s5 false true o1 s1 = false := by simp [refB, keptB, *]
          go_quiet (fail)
          go_wp2
          go_ret
          exact ⟨rfl, below_drewN hB _⟩
        | false =>
          have r1 : refB (some k5) s5 false false o1 s1 = true := by simp [refB, keptB, *]
          have r3 : refB none s5 false false o1 s1 = false := by simp [refB, keptB, *]
          go_quiet (fail)
          go_wp2
          go_ret
          exact ⟨rfl, below_drewN hB _⟩
end Go.Proofs.Qxb6613618aFmt
