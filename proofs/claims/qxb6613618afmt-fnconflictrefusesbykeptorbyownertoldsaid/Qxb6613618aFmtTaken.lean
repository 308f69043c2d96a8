import Derived.Test.Qxb6613618aFmtFacts
import Derived.WalkKit
import Derived.ProofKit
import Derived.WalkSpells
import Derived.Deep.RegionWith
import Derived.Deep.RegionHeld3
import Derived.Deep.QuietTactic
import Derived.BigQuiet
namespace Go.Proofs.Qxb6613618aFmt
open Go.ChangeShapes Go.WideShapes Go.ChangeAt Go.RowKit
open Go.Extern.Stop Go.Stop Go.Extern
attribute [local go_sem] f_call16 f_call35 f_guard f_fmt1 f_fmt1r f_fmt2 f_fmt2r f_fmt3 f_fmt3r f_op9_115w f_op9_113w f_op9_113 f_strict9 f_op27_115w f_strict27 f_ptr55 f_elem55 f_isError55


theorem errorf_taken (F : Interp) (sc sl cn of : ByteArray) (b : Nat) (w : World) (hF : F.answers w.tape)
    (h0 : w.cell? ⟨b, 0, none⟩ = some (.iface 27 (.string sc))) (h1 : w.cell? ⟨b, 1, none⟩ = some (.iface 9 (.string sl))) (h2 : w.cell? ⟨b, 2, none⟩ = some (.iface 9 (.string cn))) (h3 : w.cell? ⟨b, 3, none⟩ = some (.iface 9 (.string of))) :
    Calls Tryf.prog 15 #[.string ⟨#[37, 115, 32, 97, 99, 116, 105, 111, 110, 32, 37, 113, 32, 105, 115, 32, 97, 108, 114, 101, 97, 100, 121, 32, 111, 102, 102, 101, 114, 101, 100, 32, 105, 110, 32, 99, 97, 116, 97, 108, 111, 103, 32, 37, 113, 32, 37, 115]⟩, .slice (some ⟨b, 0, none⟩) 4 4] w
      fun e w' => (∃ a, e = .returned (.iface 55 (.pointer (some a)))) ∧ Below w.heap.size w w' := by
  have hF' := answers_open hF
  go_enter Tryf.func15, Tryf.ntmps15
  go_wp2
  go_ret
  exact ⟨⟨_, rfl⟩, ((Below.refl _ _).alloc (Nat.le_refl _) _).drew⟩

theorem errorf_kept (F : Interp) (s0 s1 s2 : ByteArray) (b : Nat) (w : World) (hF : F.answers w.tape)
    (h0 : w.cell? ⟨b, 0, none⟩ = some (.iface 9 (.string s0))) (h1 : w.cell? ⟨b, 1, none⟩ = some (.iface 9 (.string s1))) (h2 : w.cell? ⟨b, 2, none⟩ = some (.iface 9 (.string s2))) :
    Calls Tryf.prog 15 #[.string ⟨#[97, 99, 116, 105, 111, 110, 95, 116, 121, 112, 101, 32, 111, 102, 32, 37, 113, 32, 105, 115, 32, 37, 115, 32, 97, 110, 100, 32, 99, 97, 110, 110, 111, 116, 32, 99, 104, 97, 110, 103, 101, 32, 116, 111, 32, 37, 115]⟩, .slice (some ⟨b, 0, none⟩) 3 3] w
      fun e w' => (∃ a, e = .returned (.iface 55 (.pointer (some a)))) ∧ Below w.heap.size w w' := by
  have hF' := answers_open hF
  go_enter Tryf.func15, Tryf.ntmps15
  go_wp2
  go_ret
  exact ⟨⟨_, rfl⟩, ((Below.refl _ _).alloc (Nat.le_refl _) _).drew⟩

theorem offerer_builtin (cs : Array Value) (w : World) :
    Calls Tryf.prog 36 #[.agg cs] w fun e w' => (∃ s, e = .returned (.string s)) ∧ Below w.heap.size w w' := by
  go_enter Tryf.func36, Tryf.ntmps36
  go_wp2
  go_ret
  exact ⟨⟨_, rfl⟩, (Below.refl _ _).alloc (Nat.le_refl _) _⟩

theorem offerer_connector (F : Interp) (s0 s1 s2 s3 s4 s5 s6 s7 : ByteArray) (t v9 : Value) (w : World) (hF : F.answers w.tape) :
    Calls Tryf.prog 34 #[.agg #[.string s0, .string s1, .string s2, .string s3, .string s4, .string s5, .string s6, .string s7, t, v9]] w
      fun e w' => (∃ s, e = .returned (.string s)) ∧ Below w.heap.size w w' := by
  have hF' := answers_open hF
  go_enter Tryf.func34, Tryf.ntmps34
  go_wp2
  go_ret
  exact ⟨⟨_, rfl⟩, (((Below.refl _ _).alloc (Nat.le_refl _) _).alloc (by simp) _).drew⟩

theorem m36 (cs : Array Value) (w : World) : (method 217 45 (.agg cs) ("example.com" ++ String.singleton (Char.ofNat 47) ++ "ask-to-act" ++ String.singleton (Char.ofNat 47) ++ "ask-to-act" ++ String.singleton (Char.ofNat 47) ++ "action.offerer")).run Tryf.prog w = .ok (36, .agg cs) w := by kernel_rfl
theorem m34 (cs : Array Value) (w : World) : (method 217 30 (.agg cs) ("example.com" ++ String.singleton (Char.ofNat 47) ++ "ask-to-act" ++ String.singleton (Char.ofNat 47) ++ "ask-to-act" ++ String.singleton (Char.ofNat 47) ++ "action.offerer")).run Tryf.prog w = .ok (34, .agg cs) w := by kernel_rfl

/-- all old cells read as before -/
theorem bcell {W w1 : World} (hb : Below W.heap.size W w1) : (∀ b o, b < W.heap.size → w1.cell? ⟨b, o, none⟩ = W.cell? ⟨b, o, none⟩) :=
  fun b o h => hb.cell (p := ⟨b, o, none⟩) h
theorem below_drew {W w1 : World} (hb : Below W.drew.heap.size W.drew w1) : Below W.heap.size W w1 := ((Below.refl _ _).drew).trans hb
theorem below_alloc {W w1 w2 : World} {o : Obj} (hb : Below W.heap.size W w1) (hb2 : Below (w1.alloc o).heap.size (w1.alloc o) w2) : Below W.heap.size W w2 :=
  (hb.alloc hb.size o).trans (hb2.mono (by have := hb.size; simp; omega))

set_option maxHeartbeats 1000000 in
set_option maxRecDepth 100000 in
theorem taken_builtin (F : Interp) (sc sl cn : ByteArray) (ba bn bo : Nat) (cs : Array Value) (w : World) (hF : F.answers w.tape)
    (ha7 : w.cell? ⟨ba, 7, none⟩ = some (.string sc)) (ha2 : w.cell? ⟨ba, 2, none⟩ = some (.string sl)) (hn : w.cell? ⟨bn, 0, none⟩ = some (.string cn)) (ho : w.cell? ⟨bo, 0, none⟩ = some (.iface 45 (.agg cs)))
    (la : ba < w.heap.size) (ln : bn < w.heap.size) (lo : bo < w.heap.size) :
    Calls Tryf.prog 14 #[.pointer (some ⟨ba, 0, none⟩), .pointer (some ⟨bn, 0, none⟩), .pointer (some ⟨bo, 0, none⟩)] w
      fun e w' => (∃ a, e = .returned (.iface 55 (.pointer (some a)))) ∧ Below w.heap.size w w' := by
  have hm := m36 cs
  simp only [String.reduceAppend, String.reduceSingleton] at hm
  go_enter Tryf.func14, Tryf.ntmps14
  go_wp2
  go_region_held3 (fun w' => w'.cell? ⟨ba, 7, none⟩ = some (.string sc) ∧ w'.cell? ⟨ba, 2, none⟩ = some (.string sl) ∧ w'.cell? ⟨bn, 0, none⟩ = some (.string cn) ∧ w'.cell? ⟨bo, 0, none⟩ = some (.iface 45 (.agg cs))) (go_keep)
    (first
    | (go_at_call 36; refine (offerer_builtin _ _).mono ?_; rintro e w1 ⟨⟨s, rfl⟩, hb⟩; have hB : Below w.heap.size w w1 := below_drew hb; have hc := bcell hB)
    | (go_at_call 15; refine (errorf_taken F sc sl cn s _ _ (by show F.answers w1.tape; rw [hb.tape]; exact hF) (by go_simp) (by go_simp) (by go_simp) (by go_simp)).mono ?_; rintro e w2 ⟨⟨a, rfl⟩, hb2⟩; have hB2 : Below w.heap.size w w2 := below_alloc hB hb2; have hc2 := bcell hB2))
  go_wp2
  go_ret
  exact ⟨⟨_, rfl⟩, hB2⟩

set_option maxHeartbeats 1000000 in
set_option maxRecDepth 100000 in
theorem taken_connector (F : Interp) (sc sl cn : ByteArray) (ba bn bo : Nat) (s0 s1 s2 s3 s4 s5 s6 s7 : ByteArray) (t v9 : Value) (w : World) (hF : F.answers w.tape)
    (ha7 : w.cell? ⟨ba, 7, none⟩ = some (.string sc)) (ha2 : w.cell? ⟨ba, 2, none⟩ = some (.string sl)) (hn : w.cell? ⟨bn, 0, none⟩ = some (.string cn))
    (ho : w.cell? ⟨bo, 0, none⟩ = some (.iface 30 (.agg #[.string s0, .string s1, .string s2, .string s3, .string s4, .string s5, .string s6, .string s7, t, v9])))
    (la : ba < w.heap.size) (ln : bn < w.heap.size) (lo : bo < w.heap.size) :
    Calls Tryf.prog 14 #[.pointer (some ⟨ba, 0, none⟩), .pointer (some ⟨bn, 0, none⟩), .pointer (some ⟨bo, 0, none⟩)] w
      fun e w' => (∃ a, e = .returned (.iface 55 (.pointer (some a)))) ∧ Below w.heap.size w w' := by
  have hm := m34 #[.string s0, .string s1, .string s2, .string s3, .string s4, .string s5, .string s6, .string s7, t, v9]
  simp only [String.reduceAppend, String.reduceSingleton] at hm
  go_enter Tryf.func14, Tryf.ntmps14
  go_wp2
  go_region_held3 (fun w' => w'.cell? ⟨ba, 7, none⟩ = some (.string sc) ∧ w'.cell? ⟨ba, 2, none⟩ = some (.string sl) ∧ w'.cell? ⟨bn, 0, none⟩ = some (.string cn) ∧ w'.cell? ⟨bo, 0, none⟩ = some (.iface 30 (.agg #[.string s0, .string s1, .string s2, .string s3, .string s4, .string s5, .string s6, .string s7, t, v9]))) (go_keep)
    (first
    | (go_at_call 34; refine (offerer_connector F _ _ _ _ _ _ _ _ _ _ _ (by exact hF)).mono ?_; rintro e w1 ⟨⟨s, rfl⟩, hb⟩; have hB : Below w.heap.size w w1 := below_drew hb; have hc := bcell hB)
    | (go_at_call 15; refine (errorf_taken F sc sl cn s _ _ (by show F.answers w1.tape; rw [hb.tape]; exact hF) (by go_simp) (by go_simp) (by go_simp) (by go_simp)).mono ?_; rintro e w2 ⟨⟨a, rfl⟩, hb2⟩; have hB2 : Below w.heap.size w w2 := below_alloc hB hb2; have hc2 := bcell hB2))
  go_wp2
  go_ret
  exact ⟨⟨_, rfl⟩, hB2⟩

end Go.Proofs.Qxb6613618aFmt
