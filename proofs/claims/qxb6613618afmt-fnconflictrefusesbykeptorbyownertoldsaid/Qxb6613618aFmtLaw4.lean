import Derived.Test.Qxb6613618aFmtRefuses
import Derived.Test.Qxb6613618aFmtZz9
import Derived.Deep.DeepMust
import Derived.WalkSmall
namespace Go.Proofs.Qxb6613618aFmt
open Go.ChangeShapes Go.WideShapes Go.ChangeAt Go.RowKit
open Go.Extern.Stop Go.Stop Go.Extern

theorem below_more {w wa w1 : World} (hB : Below w.heap.size w wa) (hb : Below wa.heap.size wa w1) : Below w.heap.size w w1 := hB.trans (hb.mono hB.size)
theorem below_more1 {w wa w1 : World} {o : Obj} (hB : Below w.heap.size w wa) (hb : Below (wa.alloc o).heap.size (wa.alloc o) w1) : Below w.heap.size w w1 :=
  (hB.alloc hB.size o).trans (hb.mono (by have := hB.size; simp; omega))
theorem below_dd {w w1 : World} {n : Nat} (hb : Below ((w.drewN n).drew).heap.size ((w.drewN n).drew) w1) : Below w.heap.size w w1 :=
  ((below_drewN (Below.refl _ _) n).drew).trans hb
theorem below_d {w w1 : World} (hb : Below w.drew.heap.size w.drew w1) : Below w.heap.size w w1 := ((Below.refl _ _).drew).trans hb
theorem tape_of {w wa : World} {F : Interp} (hB : Below w.heap.size w wa) (hF : F.answers w.tape) : F.answers wa.tape := by rw [hB.tape]; exact hF

set_option maxHeartbeats 8000000 in
set_option maxRecDepth 100000 in
theorem law4_nil (F : Interp) (n1 n2 : ByteArray) (s0 s1 s2 s3 s4 s5 s6 s7 : ByteArray) (t : Int) (w : World) (hF : F.answers w.tape) :
    Calls Tryf.prog 4 #[.string n1, .string n2, .agg #[.string s0, .string s1, .string s2, .string s3, .string s4, .string s5, .string s6, .string s7, .int .i64 t], .pointer none] w fun e w' => e = .returned (.bool true) ∧ Below w.heap.size w w' := by
  go_enter Tryf.func4, Tryf.ntmps4
  go_wp2_with (first
    | (go_at_call 9; refine (zz9_nil n1 n2 s0 s1 s2 s3 s4 s5 s6 s7 t _).mono ?_; rintro e w1 ⟨⟨b, rfl⟩, hb⟩; have hz := hb.size; have hc := bcell hb; (try simp at hz); have hz0 : w.heap.size < w1.heap.size := (by omega); have hB := below1_trans hb; clear hb)
    | (go_at_call 6; refine (actBytes_any s0 s1 s2 s3 s4 s5 s6 s7 t _).mono ?_; rintro e w1 ⟨⟨n, rfl⟩, hb⟩; have hz := hb.size; have hc := bcell hb; (try simp at hz); have hz0 : w.heap.size < w1.heap.size := (by omega); have hB : Below w.heap.size w w1 := (by first | exact below_more hB hb | exact below_more1 hB hb); clear hb)
    | (go_at_call 7; refine (toAction_any s0 s1 s2 s3 s4 s5 s6 s7 t _).mono ?_; rintro e wa ⟨rfl, hb⟩; have hz := hb.size; have hc := bcell hb; (try simp at hz); have hz0 : w.heap.size < wa.heap.size := (by omega); have hB : Below w.heap.size w wa := (by first | exact below_more hB hb | exact below_more1 hB hb); clear hb)
    | (go_at_call 10; refine (zzBuiltin F _ s0 s1 s2 s3 s4 s5 s6 s7 t _ _ (by have hFt := tape_of hB hF; exact hFt)).mono ?_; rintro e w1 ⟨⟨a, rfl⟩, hb⟩; have hz := hb.size; have hc := bcell hb; (try simp at hz); have hz0 : w.heap.size < w1.heap.size := (by omega); have h_wa : wa.heap.size < w1.heap.size := (by omega); have hB : Below w.heap.size w w1 := (by first | exact below_more hB hb | exact below_more1 hB hb); clear hb)
    | (go_at_call 11; refine (zzNone F _ s0 s1 s2 s3 s4 s5 s6 s7 t _ none _ (by have hFt := tape_of hB hF; exact hFt) rfl).mono ?_; rintro e w1 ⟨⟨v, rfl, hv⟩, hb⟩; obtain rfl := hv.no; have hz := hb.size; have hc := bcell hb; (try simp at hz); have hz0 : w.heap.size < w1.heap.size := (by omega); have h_wa : wa.heap.size < w1.heap.size := (by omega); have hB : Below w.heap.size w w1 := (by first | exact below_more hB hb | exact below_more1 hB hb); clear hb))
  all_goals go_ret
  all_goals exact ⟨rfl, hB⟩

set_option maxHeartbeats 8000000 in
set_option maxRecDepth 100000 in
theorem law4_own (F : Interp) (n1 n2 : ByteArray) (s0 s1 s2 s3 s4 s5 s6 s7 : ByteArray) (t : Int) (bk ok : Nat) (k0 k1 k2 k3 k4 k5 k6 k7 : ByteArray) (kt : Int) (w : World) (hF : F.answers w.tape) (hk0 : w.cell? ⟨bk, ok, none⟩ = some (.string k0)) (hk1 : w.cell? ⟨bk, ok + 1, none⟩ = some (.string k1)) (hk2 : w.cell? ⟨bk, ok + 2, none⟩ = some (.string k2)) (hk3 : w.cell? ⟨bk, ok + 3, none⟩ = some (.string k3)) (hk4 : w.cell? ⟨bk, ok + 4, none⟩ = some (.string k4)) (hk5 : w.cell? ⟨bk, ok + 5, none⟩ = some (.string k5)) (hk6 : w.cell? ⟨bk, ok + 6, none⟩ = some (.string k6)) (hk7 : w.cell? ⟨bk, ok + 7, none⟩ = some (.string k7)) (hk8 : w.cell? ⟨bk, ok + 8, none⟩ = some (.int .i64 kt)) (hl : bk < w.heap.size) (hd5 : (k5.toList == s5.toList) = true) (hd1 : (k1.toList == s1.toList) = true) :
    Calls Tryf.prog 4 #[.string n1, .string n2, .agg #[.string s0, .string s1, .string s2, .string s3, .string s4, .string s5, .string s6, .string s7, .int .i64 t], .pointer (some ⟨bk, ok, none⟩)] w fun e w' => e = .returned (.bool true) ∧ Below w.heap.size w w' := by
  have l1 : bk < w.heap.size + 1 := by omega
  go_enter Tryf.func4, Tryf.ntmps4
  go_wp2_with (first
    | (go_at_call 9; refine (zz9_some n1 n2 s0 s1 s2 s3 s4 s5 s6 s7 t bk ok k0 k1 k2 k3 k4 k5 k6 k7 _ (by go_simp) (by go_simp) (by go_simp) (by go_simp) (by go_simp) (by go_simp) (by go_simp) (by go_simp) (by simp; omega)).mono ?_; rintro e w1 ⟨⟨b, rfl⟩, hb⟩; have hz := hb.size; have hc := bcell hb; (try simp at hz); have hz0 : w.heap.size < w1.heap.size := (by omega); have hB := below1_trans hb; clear hb; have hlb : bk < w1.heap.size := (by omega))
    | (go_at_call_of 6 s0; refine (actBytes_any s0 s1 s2 s3 s4 s5 s6 s7 t _).mono ?_; rintro e w1 ⟨⟨n, rfl⟩, hb⟩; have hz := hb.size; have hc := bcell hb; (try simp at hz); have hz0 : w.heap.size < w1.heap.size := (by omega); have hB : Below w.heap.size w w1 := (by first | exact below_more hB hb | exact below_more1 hB hb); clear hb; have hlb : bk < w1.heap.size := (by omega))
    | (go_at_call_of 6 k0; refine (actBytes_any k0 k1 k2 k3 k4 k5 k6 k7 kt _).mono ?_; rintro e w1 ⟨⟨n, rfl⟩, hb⟩; have hz := hb.size; have hc := bcell hb; (try simp at hz); have hz0 : w.heap.size < w1.heap.size := (by omega); have hB : Below w.heap.size w w1 := (by first | exact below_more hB hb | exact below_more1 hB hb); clear hb; have hlb : bk < w1.heap.size := (by omega))
    | (go_at_call_of 7 s0; refine (toAction_any s0 s1 s2 s3 s4 s5 s6 s7 t _).mono ?_; rintro e wa ⟨rfl, hb⟩; have hz := hb.size; have hc := bcell hb; (try simp at hz); have hz0 : w.heap.size < wa.heap.size := (by omega); have hB : Below w.heap.size w wa := (by first | exact below_more hB hb | exact below_more1 hB hb); clear hb; have hlb : bk < wa.heap.size := (by omega))
    | (go_at_call_of 7 k0; refine (toAction_any k0 k1 k2 k3 k4 k5 k6 k7 kt _).mono ?_; rintro e wk ⟨rfl, hb⟩; have hz := hb.size; have hc := bcell hb; (try simp at hz); have hz0 : w.heap.size < wk.heap.size := (by omega); have h_wa : wa.heap.size < wk.heap.size := (by omega); have hB : Below w.heap.size w wk := (by first | exact below_more hB hb | exact below_more1 hB hb); clear hb; have hlb : bk < wk.heap.size := (by omega))
    | (go_at_call 10; refine (zzBuiltin F _ s0 s1 s2 s3 s4 s5 s6 s7 t _ _ (by have hFt := tape_of hB hF; exact hFt)).mono ?_; rintro e w1 ⟨⟨a, rfl⟩, hb⟩; have hz := hb.size; have hc := bcell hb; (try simp at hz); have hz0 : w.heap.size < w1.heap.size := (by omega); have h_wa : wa.heap.size < w1.heap.size := (by omega); have h_wk : wk.heap.size < w1.heap.size := (by omega); have hB : Below w.heap.size w w1 := (by first | exact below_more hB hb | exact below_more1 hB hb); clear hb; have hlb : bk < w1.heap.size := (by omega)))
  all_goals try (go_ret; exact ⟨rfl, hB⟩)
  have hq : (keptB (some k5) s5 || !(k1.toList == s1.toList)) = false := by simp [keptB, *]
  go_quiet (fail)
  go_wp2_with fail
  go_region_held3 (fun x => ∀ b o, b < w1.heap.size → x.cell? ⟨b, o, none⟩ = w1.cell? ⟨b, o, none⟩) (first | exact fun b o h => rfl | exact hc2)
    (first
    | (go_at_call 12; refine (zzConnector F _ s0 s1 s2 s3 s4 s5 s6 s7 t k0 k1 k2 k3 k4 k5 k6 k7 kt _ (some k5) _ (by have hFt := tape_of hB hF; exact hFt) ⟨wk.heap.size, rfl, by go_simp, by simp; omega⟩).mono ?_; rintro e w2 ⟨⟨v, rfl, hv⟩, hb⟩; rw [hq] at hv; obtain rfl := hv.no; have hB2 := below_dd hb; have hc2 := bcell hB2; clear hb))
  go_wp2_with fail
  go_region_held3 (fun x => ∀ b o, b < w1.heap.size → x.cell? ⟨b, o, none⟩ = w1.cell? ⟨b, o, none⟩) (first | exact hc2 | exact hc3)
    (first
    | (go_at_call 12; refine (zzConnector F _ s0 s1 s2 s3 s4 s5 s6 s7 t k0 k1 k2 k3 k4 k5 k6 k7 kt _ (some k5) _ (by have hFt := tape_of hB2 (tape_of hB hF); exact hFt) ⟨wk.heap.size, rfl, by go_simp, by have := hB2.size; simp; omega⟩).mono ?_; rintro e w3 ⟨⟨v, rfl, hv⟩, hb⟩; rw [hq] at hv; obtain rfl := hv.no; have hB3 := below_more hB2 (below_d hb); have hc3 := bcell hB3; clear hb))
  go_wp2
  go_ret
  exact ⟨rfl, hB.trans (hB3.mono hB.size)⟩

set_option maxHeartbeats 8000000 in
set_option maxRecDepth 100000 in
theorem law4_oth (F : Interp) (n1 n2 : ByteArray) (s0 s1 s2 s3 s4 s5 s6 s7 : ByteArray) (t : Int) (bk ok : Nat) (k0 k1 k2 k3 k4 k5 k6 k7 : ByteArray) (kt : Int) (w : World) (hF : F.answers w.tape) (hk0 : w.cell? ⟨bk, ok, none⟩ = some (.string k0)) (hk1 : w.cell? ⟨bk, ok + 1, none⟩ = some (.string k1)) (hk2 : w.cell? ⟨bk, ok + 2, none⟩ = some (.string k2)) (hk3 : w.cell? ⟨bk, ok + 3, none⟩ = some (.string k3)) (hk4 : w.cell? ⟨bk, ok + 4, none⟩ = some (.string k4)) (hk5 : w.cell? ⟨bk, ok + 5, none⟩ = some (.string k5)) (hk6 : w.cell? ⟨bk, ok + 6, none⟩ = some (.string k6)) (hk7 : w.cell? ⟨bk, ok + 7, none⟩ = some (.string k7)) (hk8 : w.cell? ⟨bk, ok + 8, none⟩ = some (.int .i64 kt)) (hl : bk < w.heap.size) (hd5 : (k5.toList == s5.toList) = true) (hd1 : (k1.toList == s1.toList) = false) :
    Calls Tryf.prog 4 #[.string n1, .string n2, .agg #[.string s0, .string s1, .string s2, .string s3, .string s4, .string s5, .string s6, .string s7, .int .i64 t], .pointer (some ⟨bk, ok, none⟩)] w fun e w' => e = .returned (.bool true) ∧ Below w.heap.size w w' := by
  have l1 : bk < w.heap.size + 1 := by omega
  go_enter Tryf.func4, Tryf.ntmps4
  go_wp2_with (first
    | (go_at_call 9; refine (zz9_some n1 n2 s0 s1 s2 s3 s4 s5 s6 s7 t bk ok k0 k1 k2 k3 k4 k5 k6 k7 _ (by go_simp) (by go_simp) (by go_simp) (by go_simp) (by go_simp) (by go_simp) (by go_simp) (by go_simp) (by simp; omega)).mono ?_; rintro e w1 ⟨⟨b, rfl⟩, hb⟩; have hz := hb.size; have hc := bcell hb; (try simp at hz); have hz0 : w.heap.size < w1.heap.size := (by omega); have hB := below1_trans hb; clear hb; have hlb : bk < w1.heap.size := (by omega))
    | (go_at_call_of 6 s0; refine (actBytes_any s0 s1 s2 s3 s4 s5 s6 s7 t _).mono ?_; rintro e w1 ⟨⟨n, rfl⟩, hb⟩; have hz := hb.size; have hc := bcell hb; (try simp at hz); have hz0 : w.heap.size < w1.heap.size := (by omega); have hB : Below w.heap.size w w1 := (by first | exact below_more hB hb | exact below_more1 hB hb); clear hb; have hlb : bk < w1.heap.size := (by omega))
    | (go_at_call_of 6 k0; refine (actBytes_any k0 k1 k2 k3 k4 k5 k6 k7 kt _).mono ?_; rintro e w1 ⟨⟨n, rfl⟩, hb⟩; have hz := hb.size; have hc := bcell hb; (try simp at hz); have hz0 : w.heap.size < w1.heap.size := (by omega); have hB : Below w.heap.size w w1 := (by first | exact below_more hB hb | exact below_more1 hB hb); clear hb; have hlb : bk < w1.heap.size := (by omega))
    | (go_at_call_of 7 s0; refine (toAction_any s0 s1 s2 s3 s4 s5 s6 s7 t _).mono ?_; rintro e wa ⟨rfl, hb⟩; have hz := hb.size; have hc := bcell hb; (try simp at hz); have hz0 : w.heap.size < wa.heap.size := (by omega); have hB : Below w.heap.size w wa := (by first | exact below_more hB hb | exact below_more1 hB hb); clear hb; have hlb : bk < wa.heap.size := (by omega))
    | (go_at_call_of 7 k0; refine (toAction_any k0 k1 k2 k3 k4 k5 k6 k7 kt _).mono ?_; rintro e wk ⟨rfl, hb⟩; have hz := hb.size; have hc := bcell hb; (try simp at hz); have hz0 : w.heap.size < wk.heap.size := (by omega); have h_wa : wa.heap.size < wk.heap.size := (by omega); have hB : Below w.heap.size w wk := (by first | exact below_more hB hb | exact below_more1 hB hb); clear hb; have hlb : bk < wk.heap.size := (by omega))
    | (go_at_call 10; refine (zzBuiltin F _ s0 s1 s2 s3 s4 s5 s6 s7 t _ _ (by have hFt := tape_of hB hF; exact hFt)).mono ?_; rintro e w1 ⟨⟨a, rfl⟩, hb⟩; have hz := hb.size; have hc := bcell hb; (try simp at hz); have hz0 : w.heap.size < w1.heap.size := (by omega); have h_wa : wa.heap.size < w1.heap.size := (by omega); have h_wk : wk.heap.size < w1.heap.size := (by omega); have hB : Below w.heap.size w w1 := (by first | exact below_more hB hb | exact below_more1 hB hb); clear hb; have hlb : bk < w1.heap.size := (by omega)))
  all_goals try (go_ret; exact ⟨rfl, hB⟩)
  have hq : (keptB (some k5) s5 || !(k1.toList == s1.toList)) = true := by simp [keptB, *]
  go_quiet (fail)
  go_wp2_with fail
  go_region_held3 (fun x => ∀ b o, b < w1.heap.size → x.cell? ⟨b, o, none⟩ = w1.cell? ⟨b, o, none⟩) (first | exact fun b o h => rfl | exact hc2)
    (first
    | (go_at_call 12; refine (zzConnector F _ s0 s1 s2 s3 s4 s5 s6 s7 t k0 k1 k2 k3 k4 k5 k6 k7 kt _ (some k5) _ (by have hFt := tape_of hB hF; exact hFt) ⟨wk.heap.size, rfl, by go_simp, by simp; omega⟩).mono ?_; rintro e w2 ⟨⟨v, rfl, hv⟩, hb⟩; rw [hq] at hv; obtain ⟨a, rfl⟩ := hv.yes; have hB2 := below_dd hb; have hc2 := bcell hB2; clear hb))
  go_wp2_with fail
  go_region_held3 (fun x => ∀ b o, b < w1.heap.size → x.cell? ⟨b, o, none⟩ = w1.cell? ⟨b, o, none⟩) (first | exact hc2 | exact hc3)
    (first
    | (go_at_call 12; refine (zzConnector F _ s0 s1 s2 s3 s4 s5 s6 s7 t k0 k1 k2 k3 k4 k5 k6 k7 kt _ (some k5) _ (by have hFt := tape_of hB2 (tape_of hB hF); exact hFt) ⟨wk.heap.size, rfl, by go_simp, by have := hB2.size; simp; omega⟩).mono ?_; rintro e w3 ⟨⟨v, rfl, hv⟩, hb⟩; rw [hq] at hv; obtain ⟨a, rfl⟩ := hv.yes; have hB3 := below_more hB2 (below_d hb); have hc3 := bcell hB3; clear hb))
  go_wp2
  go_ret
  exact ⟨rfl, hB.trans (hB3.mono hB.size)⟩

set_option maxHeartbeats 8000000 in
set_option maxRecDepth 100000 in
theorem law4_diff (F : Interp) (n1 n2 : ByteArray) (s0 s1 s2 s3 s4 s5 s6 s7 : ByteArray) (t : Int) (bk ok : Nat) (k0 k1 k2 k3 k4 k5 k6 k7 : ByteArray) (kt : Int) (w : World) (hF : F.answers w.tape) (hk0 : w.cell? ⟨bk, ok, none⟩ = some (.string k0)) (hk1 : w.cell? ⟨bk, ok + 1, none⟩ = some (.string k1)) (hk2 : w.cell? ⟨bk, ok + 2, none⟩ = some (.string k2)) (hk3 : w.cell? ⟨bk, ok + 3, none⟩ = some (.string k3)) (hk4 : w.cell? ⟨bk, ok + 4, none⟩ = some (.string k4)) (hk5 : w.cell? ⟨bk, ok + 5, none⟩ = some (.string k5)) (hk6 : w.cell? ⟨bk, ok + 6, none⟩ = some (.string k6)) (hk7 : w.cell? ⟨bk, ok + 7, none⟩ = some (.string k7)) (hk8 : w.cell? ⟨bk, ok + 8, none⟩ = some (.int .i64 kt)) (hl : bk < w.heap.size) (hd5 : (k5.toList == s5.toList) = false) :
    Calls Tryf.prog 4 #[.string n1, .string n2, .agg #[.string s0, .string s1, .string s2, .string s3, .string s4, .string s5, .string s6, .string s7, .int .i64 t], .pointer (some ⟨bk, ok, none⟩)] w fun e w' => e = .returned (.bool true) ∧ Below w.heap.size w w' := by
  have l1 : bk < w.heap.size + 1 := by omega
  go_enter Tryf.func4, Tryf.ntmps4
  go_wp2_with (first
    | (go_at_call 9; refine (zz9_some n1 n2 s0 s1 s2 s3 s4 s5 s6 s7 t bk ok k0 k1 k2 k3 k4 k5 k6 k7 _ (by go_simp) (by go_simp) (by go_simp) (by go_simp) (by go_simp) (by go_simp) (by go_simp) (by go_simp) (by simp; omega)).mono ?_; rintro e w1 ⟨⟨b, rfl⟩, hb⟩; have hz := hb.size; have hc := bcell hb; (try simp at hz); have hz0 : w.heap.size < w1.heap.size := (by omega); have hB := below1_trans hb; clear hb; have hlb : bk < w1.heap.size := (by omega))
    | (go_at_call_of 6 s0; refine (actBytes_any s0 s1 s2 s3 s4 s5 s6 s7 t _).mono ?_; rintro e w1 ⟨⟨n, rfl⟩, hb⟩; have hz := hb.size; have hc := bcell hb; (try simp at hz); have hz0 : w.heap.size < w1.heap.size := (by omega); have hB : Below w.heap.size w w1 := (by first | exact below_more hB hb | exact below_more1 hB hb); clear hb; have hlb : bk < w1.heap.size := (by omega))
    | (go_at_call_of 6 k0; refine (actBytes_any k0 k1 k2 k3 k4 k5 k6 k7 kt _).mono ?_; rintro e w1 ⟨⟨n, rfl⟩, hb⟩; have hz := hb.size; have hc := bcell hb; (try simp at hz); have hz0 : w.heap.size < w1.heap.size := (by omega); have hB : Below w.heap.size w w1 := (by first | exact below_more hB hb | exact below_more1 hB hb); clear hb; have hlb : bk < w1.heap.size := (by omega))
    | (go_at_call_of 7 s0; refine (toAction_any s0 s1 s2 s3 s4 s5 s6 s7 t _).mono ?_; rintro e wa ⟨rfl, hb⟩; have hz := hb.size; have hc := bcell hb; (try simp at hz); have hz0 : w.heap.size < wa.heap.size := (by omega); have hB : Below w.heap.size w wa := (by first | exact below_more hB hb | exact below_more1 hB hb); clear hb; have hlb : bk < wa.heap.size := (by omega))
    | (go_at_call_of 7 k0; refine (toAction_any k0 k1 k2 k3 k4 k5 k6 k7 kt _).mono ?_; rintro e wk ⟨rfl, hb⟩; have hz := hb.size; have hc := bcell hb; (try simp at hz); have hz0 : w.heap.size < wk.heap.size := (by omega); have h_wa : wa.heap.size < wk.heap.size := (by omega); have hB : Below w.heap.size w wk := (by first | exact below_more hB hb | exact below_more1 hB hb); clear hb; have hlb : bk < wk.heap.size := (by omega))
    | (go_at_call 10; refine (zzBuiltin F _ s0 s1 s2 s3 s4 s5 s6 s7 t _ _ (by have hFt := tape_of hB hF; exact hFt)).mono ?_; rintro e w1 ⟨⟨a, rfl⟩, hb⟩; have hz := hb.size; have hc := bcell hb; (try simp at hz); have hz0 : w.heap.size < w1.heap.size := (by omega); have h_wa : wa.heap.size < w1.heap.size := (by omega); have h_wk : wk.heap.size < w1.heap.size := (by omega); have hB : Below w.heap.size w w1 := (by first | exact below_more hB hb | exact below_more1 hB hb); clear hb; have hlb : bk < w1.heap.size := (by omega)))
  all_goals try (go_ret; exact ⟨rfl, hB⟩)
  have hq : (keptB (some k5) s5 || !(k1.toList == s1.toList)) = true := by simp [keptB, *]
  go_quiet (fail)
  go_wp2_with fail
  go_region_held3 (fun x => ∀ b o, b < w1.heap.size → x.cell? ⟨b, o, none⟩ = w1.cell? ⟨b, o, none⟩) (first | exact fun b o h => rfl | exact hc2)
    (first
    | (go_at_call 12; refine (zzConnector F _ s0 s1 s2 s3 s4 s5 s6 s7 t k0 k1 k2 k3 k4 k5 k6 k7 kt _ (some k5) _ (by have hFt := tape_of hB hF; exact hFt) ⟨wk.heap.size, rfl, by go_simp, by simp; omega⟩).mono ?_; rintro e w2 ⟨⟨v, rfl, hv⟩, hb⟩; rw [hq] at hv; obtain ⟨a, rfl⟩ := hv.yes; have hB2 := below_dd hb; have hc2 := bcell hB2; clear hb))
  go_wp2_with fail
  go_region_held3 (fun x => ∀ b o, b < w1.heap.size → x.cell? ⟨b, o, none⟩ = w1.cell? ⟨b, o, none⟩) (first | exact hc2 | exact hc3)
    (first
    | (go_at_call 12; refine (zzConnector F _ s0 s1 s2 s3 s4 s5 s6 s7 t k0 k1 k2 k3 k4 k5 k6 k7 kt _ (some k5) _ (by have hFt := tape_of hB2 (tape_of hB hF); exact hFt) ⟨wk.heap.size, rfl, by go_simp, by have := hB2.size; simp; omega⟩).mono ?_; rintro e w3 ⟨⟨v, rfl, hv⟩, hb⟩; rw [hq] at hv; obtain ⟨a, rfl⟩ := hv.yes; have hB3 := below_more hB2 (below_d hb); have hc3 := bcell hB3; clear hb))
  go_wp2
  go_ret
  exact ⟨rfl, hB.trans (hB3.mono hB.size)⟩
end Go.Proofs.Qxb6613618aFmt
