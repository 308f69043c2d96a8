import Derived.Test.Qxb6613618aFmtTaken
import Derived.WalkKit
import Derived.ProofKit
import Derived.WalkSpells
import Derived.Deep.RegionWith
import Derived.Deep.RegionHeld3
import Derived.Deep.QuietTactic
import Derived.BigQuiet
import Derived.WalkSmall
namespace Go.Proofs.Qxb6613618aFmt
open Go.ChangeShapes Go.WideShapes Go.ChangeAt Go.RowKit
open Go.Extern.Stop Go.Stop Go.Extern
attribute [local go_sem] f_call16 f_call35 f_guard f_fmt1 f_fmt1r f_fmt2 f_fmt2r f_fmt3 f_fmt3r f_op9_115w f_op9_113w f_op9_113 f_strict9 f_op27_115w f_strict27 f_ptr55 f_elem55 f_isError55


theorem mkf (fn : Fn) (first cap : Array Value) (w : World) : (Instr.makeFunc fn first cap).run Tryf.prog w = .ok (.func fn first cap) w := rfl

theorem ta_builtin (cs : Array Value) (w : World) : (Instr.typeAssert (.iface 45 (.agg cs)) 47 30 true).run Tryf.prog w = .ok (.tuple #[.agg #[.string ⟨#[]⟩, .string ⟨#[]⟩, .string ⟨#[]⟩, .string ⟨#[]⟩, .string ⟨#[]⟩, .string ⟨#[]⟩, .string ⟨#[]⟩, .string ⟨#[]⟩, .int .i64 0, .slice none 0 0], .bool false]) w := by kernel_rfl
theorem ta_nil (w : World) : (Instr.typeAssert .nilIface 47 30 true).run Tryf.prog w = .ok (.tuple #[.agg #[.string ⟨#[]⟩, .string ⟨#[]⟩, .string ⟨#[]⟩, .string ⟨#[]⟩, .string ⟨#[]⟩, .string ⟨#[]⟩, .string ⟨#[]⟩, .string ⟨#[]⟩, .int .i64 0, .slice none 0 0], .bool false]) w := by kernel_rfl
theorem ta_connector (cs : Array Value) (w : World) : (Instr.typeAssert (.iface 30 (.agg cs)) 47 30 true).run Tryf.prog w = .ok (.tuple #[.agg cs, .bool true]) w := by kernel_rfl
attribute [local go_sem] mkf ta_builtin ta_nil ta_connector

theorem below4 (w : World) (a b c d : Obj) : Below w.heap.size w ((((w.alloc a).alloc b).alloc c).alloc d) :=
  ((((Below.refl _ _).alloc (Nat.le_refl _) _).alloc (by simp <;> omega) _).alloc (by simp <;> omega) _).alloc (by simp <;> omega) _
theorem below4_trans {w w1 : World} {a b c d : Obj} (hb : Below ((((w.alloc a).alloc b).alloc c).alloc d).heap.size ((((w.alloc a).alloc b).alloc c).alloc d) w1) : Below w.heap.size w w1 :=
  (below4 w a b c d).trans (hb.mono (by simp <;> omega))

theorem below_drew' (w : World) : Below w.heap.size w w.drew := (Below.refl _ _).drew
theorem below4_drewN (w : World) (a b c d : Obj) (n : Nat) : Below w.heap.size w (((((w.alloc a).alloc b).alloc c).alloc d).drewN n) :=
  below_drewN (below4 w a b c d) n
theorem below4_drewN_trans {w w1 : World} {a b c d : Obj} {n : Nat} (hb : Below (((((w.alloc a).alloc b).alloc c).alloc d).drewN n).heap.size (((((w.alloc a).alloc b).alloc c).alloc d).drewN n) w1) : Below w.heap.size w w1 :=
  (below4_drewN w a b c d n).trans (hb.mono (by simp <;> omega))

theorem keep1 {w : World} {a b c d : Obj} {n bk : Nat} {kt : ByteArray} (hk : w.cell? ⟨bk, 5, none⟩ = some (.string kt)) (hlt : bk < w.heap.size) : (((((w.alloc a).alloc b).alloc c).alloc d).drewN n).drew.cell? ⟨bk, 5, none⟩ = some (.string kt) := by
  rw [((below4_drewN w a b c d n).drew).cell (p := ⟨bk, 5, none⟩) hlt]; exact hk

theorem wp_gen {P : Program} {c : Code} {Q : Exit → Act → World → Prop} {a : Act} {W : World} (S : World → Prop) (hS : S W) (h : ∀ W0, S W0 → c.wp P Q a W0) : c.wp P Q a W := h W hS
theorem below_drew_alloc {W w1 : World} {o : Obj} (hb : Below ((W.alloc o).drew).heap.size ((W.alloc o).drew) w1) : Below W.heap.size W w1 :=
  (((Below.refl _ _).alloc (Nat.le_refl _) o).drew).trans (hb.mono (by simp))

set_option maxHeartbeats 1000000 in
set_option maxRecDepth 100000 in
theorem conflict_builtin (F : Interp) (cn : ByteArray) (s0 s1 s2 s3 s4 s5 s6 s7 : ByteArray) (t v9 : Value) (kp : Value) (cs : Array Value) (w : World) (hF : F.answers w.tape) :
    Calls Tryf.prog 13 #[.string cn, .agg #[.string s0, .string s1, .string s2, .string s3, .string s4, .string s5, .string s6, .string s7, t, v9], kp, .iface 45 (.agg cs)] w
      fun e w' => (∃ a, e = .returned (.iface 55 (.pointer (some a)))) ∧ Below w.heap.size w w' := by
  go_enter Tryf.func13, Tryf.ntmps13
  go_wp2_with fail
  refine (taken_builtin F s7 s2 cn _ _ _ cs _ (by exact hF) (by go_simp) (by go_simp) (by go_simp) (by go_simp) (by simp <;> omega) (by simp <;> omega) (by simp <;> omega)).mono ?_
  rintro e w1 ⟨⟨a, rfl⟩, hb⟩
  go_wp2
  go_ret
  exact ⟨⟨_, rfl⟩, below4_trans hb⟩

set_option maxHeartbeats 2000000 in
set_option maxRecDepth 100000 in
theorem conflict_none_free (cn : ByteArray) (s0 s1 s2 s3 s4 s5 s6 s7 : ByteArray) (t v9 : Value) (w : World) :
    Calls Tryf.prog 13 #[.string cn, .agg #[.string s0, .string s1, .string s2, .string s3, .string s4, .string s5, .string s6, .string s7, t, v9], .pointer none, .nilIface] w
      fun e w' => e = .returned .nilIface ∧ Below w.heap.size w w' := by
  go_enter Tryf.func13, Tryf.ntmps13
  go_wp2_with fail
  go_quiet (fail)
  go_wp2
  go_ret
  exact ⟨rfl, below4_drewN _ _ _ _ _ _⟩

set_option maxHeartbeats 2000000 in
set_option maxRecDepth 100000 in
theorem conflict_none_same (cn : ByteArray) (s0 s1 s2 s3 s4 s5 s6 s7 : ByteArray) (t v9 : Value) (bk : Nat) (kt : ByteArray) (w : World) (hk : w.cell? ⟨bk, 5, none⟩ = some (.string kt)) (hlt : bk < w.heap.size) (hd : (kt.toList == s5.toList) = true) :
    Calls Tryf.prog 13 #[.string cn, .agg #[.string s0, .string s1, .string s2, .string s3, .string s4, .string s5, .string s6, .string s7, t, v9], .pointer (some ⟨bk, 0, none⟩), .nilIface] w
      fun e w' => e = .returned .nilIface ∧ Below w.heap.size w w' := by
  have l1 : bk < w.heap.size + 1 := by omega
  have l2 : bk < w.heap.size + 1 + 1 := by omega
  have l3 : bk < w.heap.size + 1 + 1 + 1 := by omega
  have l4 : bk < w.heap.size + 1 + 1 + 1 + 1 := by omega
  have l5 : bk < w.heap.size + 1 + 1 + 1 + 1 + 1 := by omega
  go_enter Tryf.func13, Tryf.ntmps13
  go_wp2_with fail
  go_quiet (fail)
  go_wp2
  go_ret
  exact ⟨rfl, below4_drewN _ _ _ _ _ _⟩

set_option maxHeartbeats 2000000 in
set_option maxRecDepth 100000 in
theorem conflict_none_diff (F : Interp) (cn : ByteArray) (s0 s1 s2 s3 s4 s5 s6 s7 : ByteArray) (t v9 : Value) (bk : Nat) (kt : ByteArray) (w : World) (hk : w.cell? ⟨bk, 5, none⟩ = some (.string kt)) (hlt : bk < w.heap.size) (hF : F.answers w.tape) (hd : (kt.toList == s5.toList) = false) :
    Calls Tryf.prog 13 #[.string cn, .agg #[.string s0, .string s1, .string s2, .string s3, .string s4, .string s5, .string s6, .string s7, t, v9], .pointer (some ⟨bk, 0, none⟩), .nilIface] w
      fun e w' => (∃ a, e = .returned (.iface 55 (.pointer (some a)))) ∧ Below w.heap.size w w' := by
  have l1 : bk < w.heap.size + 1 := by omega
  have l2 : bk < w.heap.size + 1 + 1 := by omega
  have l3 : bk < w.heap.size + 1 + 1 + 1 := by omega
  have l4 : bk < w.heap.size + 1 + 1 + 1 + 1 := by omega
  have l5 : bk < w.heap.size + 1 + 1 + 1 + 1 + 1 := by omega
  go_enter Tryf.func13, Tryf.ntmps13
  go_wp2_with fail
  go_quiet (fail)
  go_wp2_with fail
  refine wp_gen (fun x => x.cell? ⟨w.heap.size + 1, 2, none⟩ = some (.string s2) ∧ x.cell? ⟨w.heap.size + 1, 5, none⟩ = some (.string s5) ∧ x.cell? ⟨bk, 5, none⟩ = some (.string kt) ∧ Below w.heap.size w x ∧ w.heap.size + 1 < x.heap.size) ⟨by go_simp, by go_simp, by go_simp, below4_drewN _ _ _ _ _ _, by simp <;> omega⟩ ?_
  rintro W ⟨c2, c5, ck, hB, hsz⟩
  have lk : bk < W.heap.size := by omega
  have hFW : F.answers W.tape := by rw [hB.tape]; exact hF
  clear hk hd l1 l2 l3 l4 l5 hF
  go_region_held3 (fun w' => w'.cell? ⟨w.heap.size + 1, 2, none⟩ = some (.string s2) ∧ w'.cell? ⟨w.heap.size + 1, 5, none⟩ = some (.string s5) ∧ w'.cell? ⟨bk, 5, none⟩ = some (.string kt)) (go_keep)
    (first
    | (go_at_call 15; refine (errorf_kept F s2 kt s5 _ _ (by exact hFW) (by go_simp) (by go_simp) (by go_simp)).mono ?_; rintro e w1 ⟨⟨a, rfl⟩, hb⟩; have hB1 : Below W.heap.size W w1 := below_drew_alloc hb; have hc := bcell hB1))
  go_wp2
  go_ret
  exact ⟨⟨_, rfl⟩, hB.trans (hB1.mono (by omega))⟩

set_option maxHeartbeats 2000000 in
set_option maxRecDepth 100000 in
theorem conflict_conn_free_own (cn : ByteArray) (s0 s1 s2 s3 s4 s5 s6 s7 : ByteArray) (t v9 : Value) (o0 o1 o2 o3 o4 o5 o6 o7 : ByteArray) (ot : Int) (w : World) (ho : (o1.toList == s1.toList) = true) :
    Calls Tryf.prog 13 #[.string cn, .agg #[.string s0, .string s1, .string s2, .string s3, .string s4, .string s5, .string s6, .string s7, t, v9], .pointer none, .iface 30 (.agg #[.string o0, .string o1, .string o2, .string o3, .string o4, .string o5, .string o6, .string o7, .int .i64 ot, .slice none 0 0])] w
      fun e w' => e = .returned .nilIface ∧ Below w.heap.size w w' := by
  go_enter Tryf.func13, Tryf.ntmps13
  go_wp2_with fail
  go_quiet (fail)
  go_wp2
  go_ret
  exact ⟨rfl, below4_drewN _ _ _ _ _ _⟩

set_option maxHeartbeats 2000000 in
set_option maxRecDepth 100000 in
theorem conflict_conn_free_oth (F : Interp) (cn : ByteArray) (s0 s1 s2 s3 s4 s5 s6 s7 : ByteArray) (t v9 : Value) (o0 o1 o2 o3 o4 o5 o6 o7 : ByteArray) (ot : Int) (w : World) (hF : F.answers w.tape) (ho : (o1.toList == s1.toList) = false) :
    Calls Tryf.prog 13 #[.string cn, .agg #[.string s0, .string s1, .string s2, .string s3, .string s4, .string s5, .string s6, .string s7, t, v9], .pointer none, .iface 30 (.agg #[.string o0, .string o1, .string o2, .string o3, .string o4, .string o5, .string o6, .string o7, .int .i64 ot, .slice none 0 0])] w
      fun e w' => (∃ a, e = .returned (.iface 55 (.pointer (some a)))) ∧ Below w.heap.size w w' := by
  go_enter Tryf.func13, Tryf.ntmps13
  go_wp2_with fail
  go_quiet (fail)
  go_wp2_with (first | (go_at_call 14; refine (taken_connector F s7 s2 cn _ _ _ o0 o1 o2 o3 o4 o5 o6 o7 (.int .i64 ot) (.slice none 0 0) _ (by exact hF) (by go_simp) (by go_simp) (by go_simp) (by go_simp) (by simp <;> omega) (by simp <;> omega) (by simp <;> omega)).mono ?_; rintro e w1 ⟨⟨a, rfl⟩, hb⟩))
  go_ret
  exact ⟨⟨_, rfl⟩, below4_drewN_trans hb⟩

set_option maxHeartbeats 2000000 in
set_option maxRecDepth 100000 in
theorem conflict_conn_same_own (cn : ByteArray) (s0 s1 s2 s3 s4 s5 s6 s7 : ByteArray) (t v9 : Value) (o0 o1 o2 o3 o4 o5 o6 o7 : ByteArray) (ot : Int) (bk : Nat) (kt : ByteArray) (w : World) (hk : w.cell? ⟨bk, 5, none⟩ = some (.string kt)) (hlt : bk < w.heap.size) (hd : (kt.toList == s5.toList) = true) (ho : (o1.toList == s1.toList) = true) :
    Calls Tryf.prog 13 #[.string cn, .agg #[.string s0, .string s1, .string s2, .string s3, .string s4, .string s5, .string s6, .string s7, t, v9], .pointer (some ⟨bk, 0, none⟩), .iface 30 (.agg #[.string o0, .string o1, .string o2, .string o3, .string o4, .string o5, .string o6, .string o7, .int .i64 ot, .slice none 0 0])] w
      fun e w' => e = .returned .nilIface ∧ Below w.heap.size w w' := by
  have l1 : bk < w.heap.size + 1 := by omega
  have l2 : bk < w.heap.size + 1 + 1 := by omega
  have l3 : bk < w.heap.size + 1 + 1 + 1 := by omega
  have l4 : bk < w.heap.size + 1 + 1 + 1 + 1 := by omega
  have l5 : bk < w.heap.size + 1 + 1 + 1 + 1 + 1 := by omega
  go_enter Tryf.func13, Tryf.ntmps13
  go_wp2_with fail
  go_quiet (fail)
  go_wp2
  go_ret
  exact ⟨rfl, below4_drewN _ _ _ _ _ _⟩

set_option maxHeartbeats 2000000 in
set_option maxRecDepth 100000 in
theorem conflict_conn_same_oth (F : Interp) (cn : ByteArray) (s0 s1 s2 s3 s4 s5 s6 s7 : ByteArray) (t v9 : Value) (o0 o1 o2 o3 o4 o5 o6 o7 : ByteArray) (ot : Int) (bk : Nat) (kt : ByteArray) (w : World) (hk : w.cell? ⟨bk, 5, none⟩ = some (.string kt)) (hlt : bk < w.heap.size) (hF : F.answers w.tape) (hd : (kt.toList == s5.toList) = true) (ho : (o1.toList == s1.toList) = false) :
    Calls Tryf.prog 13 #[.string cn, .agg #[.string s0, .string s1, .string s2, .string s3, .string s4, .string s5, .string s6, .string s7, t, v9], .pointer (some ⟨bk, 0, none⟩), .iface 30 (.agg #[.string o0, .string o1, .string o2, .string o3, .string o4, .string o5, .string o6, .string o7, .int .i64 ot, .slice none 0 0])] w
      fun e w' => (∃ a, e = .returned (.iface 55 (.pointer (some a)))) ∧ Below w.heap.size w w' := by
  have l1 : bk < w.heap.size + 1 := by omega
  have l2 : bk < w.heap.size + 1 + 1 := by omega
  have l3 : bk < w.heap.size + 1 + 1 + 1 := by omega
  have l4 : bk < w.heap.size + 1 + 1 + 1 + 1 := by omega
  have l5 : bk < w.heap.size + 1 + 1 + 1 + 1 + 1 := by omega
  go_enter Tryf.func13, Tryf.ntmps13
  go_wp2_with fail
  go_quiet (fail)
  go_wp2_with (first | (go_at_call 14; refine (taken_connector F s7 s2 cn _ _ _ o0 o1 o2 o3 o4 o5 o6 o7 (.int .i64 ot) (.slice none 0 0) _ (by exact hF) (by go_simp) (by go_simp) (by go_simp) (by go_simp) (by simp <;> omega) (by simp <;> omega) (by simp <;> omega)).mono ?_; rintro e w1 ⟨⟨a, rfl⟩, hb⟩))
  go_ret
  exact ⟨⟨_, rfl⟩, below4_drewN_trans hb⟩

set_option maxHeartbeats 2000000 in
set_option maxRecDepth 100000 in
theorem conflict_conn_diff (F : Interp) (cn : ByteArray) (s0 s1 s2 s3 s4 s5 s6 s7 : ByteArray) (t v9 : Value) (o0 o1 o2 o3 o4 o5 o6 o7 : ByteArray) (ot : Int) (bk : Nat) (kt : ByteArray) (w : World) (hk : w.cell? ⟨bk, 5, none⟩ = some (.string kt)) (hlt : bk < w.heap.size) (hF : F.answers w.tape) (hd : (kt.toList == s5.toList) = false) :
    Calls Tryf.prog 13 #[.string cn, .agg #[.string s0, .string s1, .string s2, .string s3, .string s4, .string s5, .string s6, .string s7, t, v9], .pointer (some ⟨bk, 0, none⟩), .iface 30 (.agg #[.string o0, .string o1, .string o2, .string o3, .string o4, .string o5, .string o6, .string o7, .int .i64 ot, .slice none 0 0])] w
      fun e w' => (∃ a, e = .returned (.iface 55 (.pointer (some a)))) ∧ Below w.heap.size w w' := by
  have l1 : bk < w.heap.size + 1 := by omega
  have l2 : bk < w.heap.size + 1 + 1 := by omega
  have l3 : bk < w.heap.size + 1 + 1 + 1 := by omega
  have l4 : bk < w.heap.size + 1 + 1 + 1 + 1 := by omega
  have l5 : bk < w.heap.size + 1 + 1 + 1 + 1 + 1 := by omega
  go_enter Tryf.func13, Tryf.ntmps13
  go_wp2_with fail
  go_quiet (fail)
  go_wp2_with fail
  refine wp_gen (fun x => x.cell? ⟨w.heap.size + 1, 2, none⟩ = some (.string s2) ∧ x.cell? ⟨w.heap.size + 1, 5, none⟩ = some (.string s5) ∧ x.cell? ⟨bk, 5, none⟩ = some (.string kt) ∧ Below w.heap.size w x ∧ w.heap.size + 1 < x.heap.size) ⟨by go_simp, by go_simp, by go_simp, below4_drewN _ _ _ _ _ _, by simp <;> omega⟩ ?_
  rintro W ⟨c2, c5, ck, hB, hsz⟩
  have lk : bk < W.heap.size := by omega
  have hFW : F.answers W.tape := by rw [hB.tape]; exact hF
  clear hk hd l1 l2 l3 l4 l5 hF
  go_region_held3 (fun w' => w'.cell? ⟨w.heap.size + 1, 2, none⟩ = some (.string s2) ∧ w'.cell? ⟨w.heap.size + 1, 5, none⟩ = some (.string s5) ∧ w'.cell? ⟨bk, 5, none⟩ = some (.string kt)) (go_keep)
    (first
    | (go_at_call 15; refine (errorf_kept F s2 kt s5 _ _ (by exact hFW) (by go_simp) (by go_simp) (by go_simp)).mono ?_; rintro e w1 ⟨⟨a, rfl⟩, hb⟩; have hB1 : Below W.heap.size W w1 := below_drew_alloc hb; have hc := bcell hB1))
  go_wp2
  go_ret
  exact ⟨⟨_, rfl⟩, hB.trans (hB1.mono (by omega))⟩

end Go.Proofs.Qxb6613618aFmt
