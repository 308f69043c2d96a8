import Derived.Test.Qxb6614053aRows
import Derived.Test.Qxb6614053aBits
import Derived.WalkKit
import Derived.ProofKit
import Derived.WalkSpells
import Derived.WalkSmall
import Derived.Deep.MidRow
namespace Go.Proofs.Qxb6614053a
open Go.ChangeShapes Go.WideShapes Go.ChangeAt Go.RowKit

/-- the key of id i < 65536: 32 bytes -/
abbrev keyCells (i : Int) : Array Value := #[.int .u8 (i % 256), .int .u8 (i / 256), .int .u8 0, .int .u8 1, .int .u8 0, .int .u8 0, .int .u8 0, .int .u8 0, .int .u8 0, .int .u8 0, .int .u8 0, .int .u8 0, .int .u8 0, .int .u8 0, .int .u8 0, .int .u8 0, .int .u8 0, .int .u8 0, .int .u8 0, .int .u8 0, .int .u8 0, .int .u8 0, .int .u8 0, .int .u8 0, .int .u8 0, .int .u8 0, .int .u8 0, .int .u8 0, .int .u8 0, .int .u8 0, .int .u8 0, .int .u8 0]

theorem range_last (w : World) (c : Array Value) (t : TypeId) (b : Nat) (hb : b = w.heap.size) : (w.alloc (.cells c t)).rangeAt b 0 c.toList := fun j v hv => by
  subst hb
  rw [Nat.zero_add, cell_of_row _ w.heap.size j c t (0, 0) (heap_alloc_new w _)]
  simpa using hv
theorem there_last (w : World) (c : Array Value) (t : TypeId) (b n : Nat) (hb : b = w.heap.size) (hn : n ≤ c.size) : (w.alloc (.cells c t)).there b 0 n := fun j hj => by
  subst hb
  rw [Nat.zero_add, cell_of_row _ w.heap.size j c t (0, 0) (heap_alloc_new w _)]
  exact ⟨by simp; omega, frozen_of_row _ w.heap.size j c t (heap_alloc_new w _)⟩
theorem below_setCells {B : Nat} {a : World} {b : Nat} (hb : B ≤ b) : ∀ (vs : List Value) (o : Nat) (w : World), Below B a w → Below B a (w.setCells b o vs)
  | [], _, _, h => h
  | v :: r, o, w, h => below_setCells hb r (o + 1) (w.setCell ⟨b, o, none⟩ v) (h.setCell hb v)
theorem i27 : (Try.prog.info? 27).map (·.size) = some 32 := by kernel_rfl

/-- a struct or an array handed back out of its cell -/
theorem res_cell {P : Program} {fn : Func} {p : Tmp} {ty : TypeId} (h : fn.results = #[.cell p ty]) (tmps : Array Value) (w : World) (b o : Nat) (hp : tmps.getD p undef = .pointer (some ⟨b, o, none⟩)) (cs : List Value) (d : TypeDesc)
    (hc : w.rangeAt b o cs) (hu : P.underlying ty = some d) (hd : d.isRow = true) (hi : (P.info? ty).map (·.size) = some cs.length) : (results fn tmps).run P w = .ok (.agg cs.toArray) w := by
  have hl := run_loadVar_mid (P := P) w b o ty cs d hc hu hd hi
  have hp' : tmps[p]?.getD undef = .pointer (some ⟨b, o, none⟩) := by simpa using hp
  simp only [results, h]
  simp [hp', asAddr, hl]
theorem key_one (i : Int) : (keyCells i).all (·.oneCell') = true := by simp [Value.oneCell']

set_option maxHeartbeats 400000 in
set_option maxRecDepth 100000 in
theorem keyOf_any (i : Int) (w : World) (h0 : 0 ≤ i) (h1 : i < 65536) :
    Calls Try.prog 8 #[.int .i64 i] w fun e w' => e = .returned (.agg (keyCells i)) ∧ Below w.heap.size w w' := by
  have d1 : i / 65536 = 0 := by omega
  go_enter Try.func8, Try.ntmps8
  go_wp2_with (first
    | (refine wpList_load_mid rfl 27 (.tmp 3) rfl (w.heap.size + 1) 0 rfl (keyCells i).toList _ (by exact range_last _ _ _ _ (by simp)) Try.underlying27 rfl i27 ?_)
    | (refine wpList_store_mid rfl 27 (.tmp 2) (.tmp 16) rfl w.heap.size 0 (keyCells i) rfl rfl (by exact World.there_alloc (there_last _ _ _ _ 32 rfl (by decide)) _) i27 (key_one i) ?_))
  exact bodyPost_ret (v := .agg (keyCells i)) (res_cell Try.results8 _ _ w.heap.size 0 rfl (keyCells i).toList _ (World.rangeAt_setCells_same _ _ _ _ (by exact World.there_alloc (there_last _ _ _ _ 32 rfl (by decide)) _)) Try.underlying27 rfl i27) rfl ⟨rfl, below_setCells (Nat.le_refl _) _ _ _ (((Below.refl _ _).alloc (Nat.le_refl _) _).alloc (by simp) _)⟩

theorem key_zero (i : Int) (j : Nat) (h4 : 4 ≤ j) (h32 : j < 32) : (keyCells i)[j]? = some (.int .u8 0) := by
  have : j = 4 ∨ j = 5 ∨ j = 6 ∨ j = 7 ∨ j = 8 ∨ j = 9 ∨ j = 10 ∨ j = 11 ∨ j = 12 ∨ j = 13 ∨ j = 14 ∨ j = 15 ∨ j = 16 ∨ j = 17 ∨ j = 18 ∨ j = 19 ∨ j = 20 ∨ j = 21 ∨ j = 22 ∨ j = 23 ∨ j = 24 ∨ j = 25 ∨ j = 26 ∨ j = 27 ∨ j = 28 ∨ j = 29 ∨ j = 30 ∨ j = 31 := by omega
  rcases this with rfl | rfl | rfl | rfl | rfl | rfl | rfl | rfl | rfl | rfl | rfl | rfl | rfl | rfl | rfl | rfl | rfl | rfl | rfl | rfl | rfl | rfl | rfl | rfl | rfl | rfl | rfl | rfl <;> rfl
theorem ret_tup {a b : Int} (h : a = b) : Ending.returned (.tuple #[.int .i64 a, .bool true]) = .returned (.tuple #[.int .i64 b, .bool true]) := by rw [h]
theorem i64_or_nat (a b : Nat) (ha : a < 65536) (hb : b < 65536) : bits .or .i64 (a : Int) (b : Int) = ((a ||| b : Nat) : Int) := by
  have hx : a ||| b < 2 ^ 16 := Nat.or_lt_two_pow (by omega) (by omega)
  show IntKind.i64.wrap ((BitVec.ofInt 64 (a : Int) ||| BitVec.ofInt 64 (b : Int)).toNat : Int) = _
  rw [BitVec.toNat_or, ofInt_u64 a (by omega), ofInt_u64 b (by omega), IntKind.wrap_i64]
  omega
theorem idx_or (i : Int) (h0 : 0 ≤ i) (h1 : i < 65536) : bits .or .i64 (bits .or .i64 (i % 256) (i / 256 * 256)) 0 = i := by
  obtain ⟨n, rfl⟩ := Int.eq_ofNat_of_zero_le h0
  have e1 : ((n : Int) % 256) = ((n % 256 : Nat) : Int) := by omega
  have e2 : ((n : Int) / 256 * 256) = ((n / 256 * 256 : Nat) : Int) := by omega
  have e3 : n % 256 ||| n / 256 * 256 = n := by
    rw [Nat.or_comm, nat_join 8 (n / 256 * 256) (n % 256) (by omega) (by omega)]; omega
  rw [e1, e2, i64_or_nat _ _ (by omega) (by omega), e3]
  have := i64_or_nat n 0 (by omega) (by omega)
  rw [Nat.or_zero] at this
  exact this

set_option maxHeartbeats 400000 in
set_option maxRecDepth 100000 in
theorem idxOf_any (i : Int) (w : World) (h0 : 0 ≤ i) (h1 : i < 65536) :
    Calls Try.prog 11 #[.agg (keyCells i)] w fun e w' => e = .returned (.tuple #[.int .i64 i, .bool true]) ∧ Below w.heap.size w w' := by
  have hk : ∀ j : Nat, 4 ≤ j → j < 32 → (w.alloc (.cells (keyCells i) 27)).cell? ⟨w.heap.size, j, none⟩ = some (.int .u8 0) := fun j a b => by
    rw [cell_of_row _ w.heap.size j (keyCells i) 27 (0, 0) (heap_alloc_new w _)]; exact key_zero i j a b
  have h3 : (w.alloc (.cells (keyCells i) 27)).cell? ⟨w.heap.size, 3, none⟩ = some (.int .u8 1) := by
    rw [cell_of_row _ w.heap.size 3 (keyCells i) 27 (0, 0) (heap_alloc_new w _)]; rfl
  have e0 : (w.alloc (.cells (keyCells i) 27)).cell? ⟨w.heap.size, 0, none⟩ = some (.int .u8 (i % 256)) := by
    rw [cell_of_row _ w.heap.size 0 (keyCells i) 27 (0, 0) (heap_alloc_new w _)]; rfl
  have e1 : (w.alloc (.cells (keyCells i) 27)).cell? ⟨w.heap.size, 1, none⟩ = some (.int .u8 (i / 256)) := by
    rw [cell_of_row _ w.heap.size 1 (keyCells i) 27 (0, 0) (heap_alloc_new w _)]; rfl
  have e2 : (w.alloc (.cells (keyCells i) 27)).cell? ⟨w.heap.size, 2, none⟩ = some (.int .u8 0) := by
    rw [cell_of_row _ w.heap.size 2 (keyCells i) 27 (0, 0) (heap_alloc_new w _)]; rfl
  go_enter Try.func11, Try.ntmps11
  go_wp2
  go_loop [4] (fun j => ∃ k : Nat, 4 ≤ k ∧ k ≤ 32 ∧ j = .int .i64 k) (fun j => 32 - (intOf j).toNat)
  case atStart => exact ⟨4, by omega, by omega, rfl⟩
  case round =>
    obtain ⟨k, hk4, hk32, rfl⟩ := hrel
    by_cases hlt : k < 32
    · have hc := hk k hk4 hlt
      have hki : (k : Int) < 32 := by omega
      clear hk
      go_wp2
      go_round
      case rel => exact ⟨k + 1, by omega, by omega, by go_num⟩
      case measure => simp [intOf]; omega
    · clear hk
      go_wp2
      go_ret2
      exact ⟨ret_tup (idx_or i h0 h1), (Below.refl _ _).alloc (Nat.le_refl _) _⟩
end Go.Proofs.Qxb6614053a
