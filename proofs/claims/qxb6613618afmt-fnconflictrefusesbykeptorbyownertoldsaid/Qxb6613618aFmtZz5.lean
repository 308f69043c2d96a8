import Derived.Test.Qxb6613618aFmtTaken
namespace Go.Proofs.Qxb6613618aFmt
open Go.ChangeShapes Go.WideShapes Go.ChangeAt Go.RowKit
open Go.Extern.Stop Go.Stop Go.Extern

set_option maxHeartbeats 8000000 in
set_option maxRecDepth 100000 in
theorem zz5_nil (n1 : ByteArray) (s0 s1 s2 s3 s4 s5 s6 s7 : ByteArray) (t : Int) (b1 b2 : Bool) (o0 o1 o2 o3 o4 o5 o6 o7 : ByteArray) (ot : Int) (w : World) :
    Calls Tryf.prog 5 #[.string n1, .agg #[.string s0, .string s1, .string s2, .string s3, .string s4, .string s5, .string s6, .string s7, .int .i64 t], .pointer none, .bool b1, .bool b2, .agg #[.string o0, .string o1, .string o2, .string o3, .string o4, .string o5, .string o6, .string o7, .int .i64 ot]] w fun e w' => (∃ b, e = .returned (.bool b)) ∧ Below w.heap.size w w' := by
  go_enter Tryf.func5, Tryf.ntmps5
  go_wp2
  all_goals go_ret
  all_goals exact ⟨⟨_, rfl⟩, ((Below.refl _ _).alloc (Nat.le_refl _) _).alloc (by simp) _⟩

set_option maxHeartbeats 8000000 in
set_option maxRecDepth 100000 in
theorem zz5_some (n1 : ByteArray) (s0 s1 s2 s3 s4 s5 s6 s7 : ByteArray) (t : Int) (b1 b2 : Bool) (o0 o1 o2 o3 o4 o5 o6 o7 : ByteArray) (ot : Int) (bk ok : Nat) (k0 k1 k2 k3 k4 k5 k6 k7 : ByteArray) (w : World) (hk0 : w.cell? ⟨bk, ok, none⟩ = some (.string k0)) (hk1 : w.cell? ⟨bk, ok + 1, none⟩ = some (.string k1)) (hk2 : w.cell? ⟨bk, ok + 2, none⟩ = some (.string k2)) (hk3 : w.cell? ⟨bk, ok + 3, none⟩ = some (.string k3)) (hk4 : w.cell? ⟨bk, ok + 4, none⟩ = some (.string k4)) (hk5 : w.cell? ⟨bk, ok + 5, none⟩ = some (.string k5)) (hk6 : w.cell? ⟨bk, ok + 6, none⟩ = some (.string k6)) (hk7 : w.cell? ⟨bk, ok + 7, none⟩ = some (.string k7)) (hl : bk < w.heap.size) :
    Calls Tryf.prog 5 #[.string n1, .agg #[.string s0, .string s1, .string s2, .string s3, .string s4, .string s5, .string s6, .string s7, .int .i64 t], .pointer (some ⟨bk, ok, none⟩), .bool b1, .bool b2, .agg #[.string o0, .string o1, .string o2, .string o3, .string o4, .string o5, .string o6, .string o7, .int .i64 ot]] w fun e w' => (∃ b, e = .returned (.bool b)) ∧ Below w.heap.size w w' := by
  have l1 : bk < w.heap.size + 1 := by omega
  have l2 : bk < w.heap.size + 1 + 1 := by omega
  go_enter Tryf.func5, Tryf.ntmps5
  go_wp2
  all_goals go_ret
  all_goals exact ⟨⟨_, rfl⟩, ((Below.refl _ _).alloc (Nat.le_refl _) _).alloc (by simp) _⟩
end Go.Proofs.Qxb6613618aFmt
