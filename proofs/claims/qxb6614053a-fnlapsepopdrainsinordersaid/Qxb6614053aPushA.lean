import Derived.Test.Qxb6614053aSwap
import Derived.Deep.AppendLies
namespace Go.Proofs.Qxb6614053a
open Go.ChangeShapes Go.WideShapes Go.ChangeAt Go.RowKit

theorem info55 : (Try.prog.info? 55).map (fun i => (i.zero, i.size, i.bytes)) = some (some (.agg #[.int .u8 0, .int .u8 0, .int .u8 0, .int .u8 0, .int .u8 0, .int .u8 0, .int .u8 0, .int .u8 0, .int .u8 0, .int .u8 0, .int .u8 0, .int .u8 0, .int .u8 0, .int .u8 0, .int .u8 0, .int .u8 0, .int .u8 0, .int .u8 0, .int .u8 0, .int .u8 0, .int .u8 0, .int .u8 0, .int .u8 0, .int .u8 0, .int .u8 0, .int .u8 0, .int .u8 0, .int .u8 0, .int .u8 0, .int .u8 0, .int .u8 0, .int .u8 0, .int .u64 0, .int .i64 0, .pointer none]), 35, 56) := by kernel_rfl
theorem info81 : (Try.prog.info? 81).map (fun i => (i.zero, i.size, i.bytes)) = some (some (.slice none 0 0), 1, 24) := by kernel_rfl
theorem ta55 (cs : Array Value) (w : World) : (Instr.typeAssert (.iface 55 (.agg cs)) 20 55 false).run Try.prog w = .ok (.agg cs) w := by kernel_rfl
theorem bs55 (Z : Nat → Int) (i : Nat) (w : World) : (Instr.buildSlice 81 1 #[(0, .agg (ent Z i).toArray)]).run Try.prog w = .ok (.slice (some ⟨w.heap.size, 0, none⟩) 1 1) (w.alloc (.cells (ent Z i).toArray 55)) := by kernel_rfl
theorem wp_gen {P : Program} {c : Code} {Q : Exit → Act → World → Prop} {a : Act} {W : World} (S : World → Prop) (hS : S W) (h : ∀ W0, S W0 → c.wp P Q a W0) : c.wp P Q a W := h W hS
theorem step_run {P : Program} {ops : Array Oper} {o : Oper} {a : Act} {w w' : World} {v : Value} {K : Act → World → Prop} {Q : Exit → Act → World → Prop} {E : Prop} (hg : o.guard = none) (h : (execOp a.eval o).run P w = .ok (.value v) w')
    (hK : K (a.put o.dst v) w') : if Region.wanted o (yielded ops a.tmps) = true then Oper.wp P o a w K Q else E := by
  have hw : Region.wanted o (yielded ops a.tmps) = true := by simp [Region.wanted, hg]
  rw [if_pos hw]
  unfold Oper.wp
  rw [h]
  exact hK
end Go.Proofs.Qxb6614053a
