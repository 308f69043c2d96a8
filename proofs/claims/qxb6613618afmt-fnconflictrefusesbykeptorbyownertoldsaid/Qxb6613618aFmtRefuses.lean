import Derived.Test.Qxb6613618aFmtConflict
namespace Go.Proofs.Qxb6613618aFmt
open Go.ChangeShapes Go.WideShapes Go.ChangeAt Go.RowKit
open Go.Extern.Stop Go.Stop Go.Extern

set_option maxHeartbeats 1000000 in
theorem actBytes_any (s0 s1 s2 s3 s4 s5 s6 s7 : ByteArray) (t : Int) (w : World) :
    Calls Tryf.prog 6 #[.agg #[.string s0, .string s1, .string s2, .string s3, .string s4, .string s5, .string s6, .string s7, .int .i64 t]] w
      fun e w' => (∃ n, e = .returned (.int .i64 n)) ∧ Below w.heap.size w w' := by
  go_enter Tryf.func6, Tryf.ntmps6
  go_wp2
  go_ret
  exact ⟨⟨_, rfl⟩, (Below.refl _ _).alloc (Nat.le_refl _) _⟩

set_option maxHeartbeats 1000000 in
theorem toAction_any (s0 s1 s2 s3 s4 s5 s6 s7 : ByteArray) (t : Int) (w : World) :
    Calls Tryf.prog 7 #[.agg #[.string s0, .string s1, .string s2, .string s3, .string s4, .string s5, .string s6, .string s7, .int .i64 t]] w
      fun e w' => e = .returned (.agg #[.string s0, .string s1, .string s2, .string s3, .string s4, .string s5, .string s6, .string s7, .int .i64 t, .slice none 0 0]) ∧ Below w.heap.size w w' := by
  go_enter Tryf.func7, Tryf.ntmps7
  go_wp2
  refine bodyPost_ret (v := .agg #[.string s0, .string s1, .string s2, .string s3, .string s4, .string s5, .string s6, .string s7, .int .i64 t, .slice none 0 0]) (by simp [results, Tryf.results7, go_sem]) rfl ⟨rfl, ?_⟩
  exact ((Below.refl _ _).alloc (Nat.le_refl _) _).alloc (by simp) _

/-- the kept action behind the pointer: none, or one with this action type -/
def KeptIs (w : World) (kp : Value) : Option ByteArray → Prop
  | none => kp = .pointer none
  | some kt => ∃ bk, kp = .pointer (some ⟨bk, 0, none⟩) ∧ w.cell? ⟨bk, 5, none⟩ = some (.string kt) ∧ bk < w.heap.size
def keptB (k : Option ByteArray) (s5 : ByteArray) : Bool := match k with
  | none => false
  | some kt => !(kt.toList == s5.toList)
def ErrIs (b : Bool) (v : Value) : Prop := if b = true then ∃ a, v = .iface 55 (.pointer (some a)) else v = .nilIface
theorem ErrIs.yes {v : Value} (h : ErrIs true v) : ∃ a, v = .iface 55 (.pointer (some a)) := by simpa [ErrIs] using h
theorem ErrIs.no {v : Value} (h : ErrIs false v) : v = .nilIface := by simpa [ErrIs] using h
theorem KeptIs.below {w w1 : World} {kp : Value} {k : Option ByteArray} (h : KeptIs w kp k) (hb : Below w.heap.size w w1) : KeptIs w1 kp k := by
  cases k with
  | none => exact h
  | some kt =>
    obtain ⟨bk, e, hc, hl⟩ := h
    exact ⟨bk, e, by rw [hb.cell (p := ⟨bk, 5, none⟩) hl]; exact hc, Nat.lt_of_lt_of_le hl hb.size⟩
theorem KeptIs.alloc {w : World} {kp : Value} {k : Option ByteArray} (h : KeptIs w kp k) (o : Obj) : KeptIs (w.alloc o) kp k := h.below ((Below.refl _ _).alloc (Nat.le_refl _) o)

theorem conflict_none (F : Interp) (cn : ByteArray) (s0 s1 s2 s3 s4 s5 s6 s7 : ByteArray) (t : Int) (kp : Value) (k : Option ByteArray) (w : World) (hF : F.answers w.tape) (hk : KeptIs w kp k) :
    Calls Tryf.prog 13 #[.string cn, .agg #[.string s0, .string s1, .string s2, .string s3, .string s4, .string s5, .string s6, .string s7, .int .i64 t, .slice none 0 0], kp, .nilIface] w
      fun e w' => (∃ v, e = .returned v ∧ ErrIs (keptB k s5) v) ∧ Below w.heap.size w w' := by
  cases k with
  | none =>
    obtain rfl : kp = .pointer none := hk
    refine (conflict_none_free cn s0 s1 s2 s3 s4 s5 s6 s7 (.int .i64 t) (.slice none 0 0) w).mono ?_
    rintro e w' ⟨rfl, hb⟩
    exact ⟨⟨_, rfl, by simp [ErrIs, keptB]⟩, hb⟩
  | some kt =>
    obtain ⟨bk, rfl, hc, hl⟩ := hk
    cases hd : (kt.toList == s5.toList) with
    | true =>
      refine (conflict_none_same cn s0 s1 s2 s3 s4 s5 s6 s7 (.int .i64 t) (.slice none 0 0) bk kt w hc hl hd).mono ?_
      rintro e w' ⟨rfl, hb⟩
      exact ⟨⟨_, rfl, by simp [ErrIs, keptB, hd]⟩, hb⟩
    | false =>
      refine (conflict_none_diff F cn s0 s1 s2 s3 s4 s5 s6 s7 (.int .i64 t) (.slice none 0 0) bk kt w hc hl hF hd).mono ?_
      rintro e w' ⟨⟨a, rfl⟩, hb⟩
      exact ⟨⟨_, rfl, by simp [ErrIs, keptB, hd]⟩, hb⟩

theorem conflict_conn (F : Interp) (cn : ByteArray) (s0 s1 s2 s3 s4 s5 s6 s7 : ByteArray) (t : Int) (o0 o1 o2 o3 o4 o5 o6 o7 : ByteArray) (ot : Int) (kp : Value) (k : Option ByteArray) (w : World) (hF : F.answers w.tape) (hk : KeptIs w kp k) :
    Calls Tryf.prog 13 #[.string cn, .agg #[.string s0, .string s1, .string s2, .string s3, .string s4, .string s5, .string s6, .string s7, .int .i64 t, .slice none 0 0], kp, .iface 30 (.agg #[.string o0, .string o1, .string o2, .string o3, .string o4, .string o5, .string o6, .string o7, .int .i64 ot, .slice none 0 0])] w
      fun e w' => (∃ v, e = .returned v ∧ ErrIs (keptB k s5 || !(o1.toList == s1.toList)) v) ∧ Below w.heap.size w w' := by
  cases k with
  | none =>
    obtain rfl : kp = .pointer none := hk
    cases ho : (o1.toList == s1.toList) with
    | true =>
      refine (conflict_conn_free_own cn s0 s1 s2 s3 s4 s5 s6 s7 (.int .i64 t) (.slice none 0 0) o0 o1 o2 o3 o4 o5 o6 o7 ot w ho).mono ?_
      rintro e w' ⟨rfl, hb⟩
      exact ⟨⟨_, rfl, by simp [ErrIs, keptB]⟩, hb⟩
    | false =>
      refine (conflict_conn_free_oth F cn s0 s1 s2 s3 s4 s5 s6 s7 (.int .i64 t) (.slice none 0 0) o0 o1 o2 o3 o4 o5 o6 o7 ot w hF ho).mono ?_
      rintro e w' ⟨⟨a, rfl⟩, hb⟩
      exact ⟨⟨_, rfl, by simp [ErrIs, keptB]⟩, hb⟩
  | some kt =>
    obtain ⟨bk, rfl, hc, hl⟩ := hk
    cases hd : (kt.toList == s5.toList) with
    | true =>
      cases ho : (o1.toList == s1.toList) with
      | true =>
        refine (conflict_conn_same_own cn s0 s1 s2 s3 s4 s5 s6 s7 (.int .i64 t) (.slice none 0 0) o0 o1 o2 o3 o4 o5 o6 o7 ot bk kt w hc hl hd ho).mono ?_
        rintro e w' ⟨rfl, hb⟩
        exact ⟨⟨_, rfl, by simp [ErrIs, keptB, hd]⟩, hb⟩
      | false =>
        refine (conflict_conn_same_oth F cn s0 s1 s2 s3 s4 s5 s6 s7 (.int .i64 t) (.slice none 0 0) o0 o1 o2 o3 o4 o5 o6 o7 ot bk kt w hc hl hF hd ho).mono ?_
        rintro e w' ⟨⟨a, rfl⟩, hb⟩
        exact ⟨⟨_, rfl, by simp [ErrIs, keptB, hd]⟩, hb⟩
    | false =>
      refine (conflict_conn_diff F cn s0 s1 s2 s3 s4 s5 s6 s7 (.int .i64 t) (.slice none 0 0) o0 o1 o2 o3 o4 o5 o6 o7 ot bk kt w hc hl hF hd).mono ?_
      rintro e w' ⟨⟨a, rfl⟩, hb⟩
      exact ⟨⟨_, rfl, by simp [ErrIs, keptB, hd]⟩, hb⟩

theorem below1_trans {w w1 : World} {a : Obj} (hb : Below (w.alloc a).heap.size (w.alloc a) w1) : Below w.heap.size w w1 :=
  ((Below.refl _ _).alloc (Nat.le_refl _) a).trans (hb.mono (by simp))
theorem below2_trans {w w1 : World} {a b : Obj} (hb : Below ((w.alloc a).alloc b).heap.size ((w.alloc a).alloc b) w1) : Below w.heap.size w w1 :=
  below1_trans (below1_trans hb)

set_option maxHeartbeats 1000000 in
theorem zzBuiltin (F : Interp) (cn : ByteArray) (s0 s1 s2 s3 s4 s5 s6 s7 : ByteArray) (t : Int) (kp : Value) (w : World) (hF : F.answers w.tape) :
    Calls Tryf.prog 10 #[.string cn, .agg #[.string s0, .string s1, .string s2, .string s3, .string s4, .string s5, .string s6, .string s7, .int .i64 t, .slice none 0 0], kp] w
      fun e w' => (∃ a, e = .returned (.iface 55 (.pointer (some a)))) ∧ Below w.heap.size w w' := by
  go_enter Tryf.func10, Tryf.ntmps10
  go_wp2_with (go_at_call 13; refine (conflict_builtin F cn s0 s1 s2 s3 s4 s5 s6 s7 (.int .i64 t) (.slice none 0 0) kp _ _ (by exact hF)).mono ?_; rintro e w1 ⟨⟨a, rfl⟩, hb⟩)
  go_ret
  exact ⟨⟨_, rfl⟩, below1_trans hb⟩

set_option maxHeartbeats 1000000 in
theorem zzNone (F : Interp) (cn : ByteArray) (s0 s1 s2 s3 s4 s5 s6 s7 : ByteArray) (t : Int) (kp : Value) (k : Option ByteArray) (w : World) (hF : F.answers w.tape) (hk : KeptIs w kp k) :
    Calls Tryf.prog 11 #[.string cn, .agg #[.string s0, .string s1, .string s2, .string s3, .string s4, .string s5, .string s6, .string s7, .int .i64 t, .slice none 0 0], kp] w
      fun e w' => (∃ v, e = .returned v ∧ ErrIs (keptB k s5) v) ∧ Below w.heap.size w w' := by
  go_enter Tryf.func11, Tryf.ntmps11
  go_wp2_with (go_at_call 13; refine (conflict_none F cn s0 s1 s2 s3 s4 s5 s6 s7 t kp k _ (by exact hF) (hk.alloc _)).mono ?_; rintro e w1 ⟨⟨v, rfl, hv⟩, hb⟩)
  go_ret
  exact ⟨⟨_, rfl, hv⟩, below1_trans hb⟩

set_option maxHeartbeats 1000000 in
theorem zzConnector (F : Interp) (cn : ByteArray) (s0 s1 s2 s3 s4 s5 s6 s7 : ByteArray) (t : Int) (o0 o1 o2 o3 o4 o5 o6 o7 : ByteArray) (ot : Int) (kp : Value) (k : Option ByteArray) (w : World) (hF : F.answers w.tape) (hk : KeptIs w kp k) :
    Calls Tryf.prog 12 #[.string cn, .agg #[.string s0, .string s1, .string s2, .string s3, .string s4, .string s5, .string s6, .string s7, .int .i64 t, .slice none 0 0], kp, .agg #[.string o0, .string o1, .string o2, .string o3, .string o4, .string o5, .string o6, .string o7, .int .i64 ot, .slice none 0 0]] w
      fun e w' => (∃ v, e = .returned v ∧ ErrIs (keptB k s5 || !(o1.toList == s1.toList)) v) ∧ Below w.heap.size w w' := by
  go_enter Tryf.func12, Tryf.ntmps12
  go_wp2_with (go_at_call 13; refine (conflict_conn F cn s0 s1 s2 s3 s4 s5 s6 s7 t o0 o1 o2 o3 o4 o5 o6 o7 ot kp k _ (by exact hF) ((hk.alloc _).alloc _)).mono ?_; rintro e w1 ⟨⟨v, rfl, hv⟩, hb⟩)
  go_ret
  exact ⟨⟨_, rfl, hv⟩, below2_trans hb⟩

/-- what 'refuses' answers -/
def refB (k : Option ByteArray) (s5 : ByteArray) (ho hbu : Bool) (o1 s1 : ByteArray) : Bool :=
  bif ho then (bif hbu then true else (keptB k s5 || !(o1.toList == s1.toList))) else keptB k s5

set_option maxHeartbeats 2000000 in
theorem refuses_any (F : Interp) (cn : ByteArray) (s0 s1 s2 s3 s4 s5 s6 s7 : ByteArray) (t : Int) (o0 o1 o2 o3 o4 o5 o6 o7 : ByteArray) (ot : Int) (kp : Value) (k : Option ByteArray) (ho hbu : Bool) (w : World) (hF : F.answers w.tape) (hk : KeptIs w kp k) :
    Calls Tryf.prog 8 #[.string cn, .agg #[.string s0, .string s1, .string s2, .string s3, .string s4, .string s5, .string s6, .string s7, .int .i64 t, .slice none 0 0], kp, .bool ho, .bool hbu, .agg #[.string o0, .string o1, .string o2, .string o3, .string o4, .string o5, .string o6, .string o7, .int .i64 ot, .slice none 0 0]] w
      fun e w' => e = .returned (.bool (refB k s5 ho hbu o1 s1)) ∧ Below w.heap.size w w' := by
  cases ho with
  | false =>
    cases hq : keptB k s5 with
    | true =>
      go_enter Tryf.func8, Tryf.ntmps8
      go_wp2_with (go_at_call 11; refine (zzNone F cn s0 s1 s2 s3 s4 s5 s6 s7 t kp k _ (by exact hF) ((hk.alloc _).alloc _)).mono ?_; rintro e w1 ⟨⟨v, rfl, hv⟩, hb⟩; rw [hq] at hv; obtain ⟨a, rfl⟩ := hv.yes)
      go_ret
      exact ⟨by simp [refB, hq], below2_trans hb⟩
    | false =>
      go_enter Tryf.func8, Tryf.ntmps8
      go_wp2_with (go_at_call 11; refine (zzNone F cn s0 s1 s2 s3 s4 s5 s6 s7 t kp k _ (by exact hF) ((hk.alloc _).alloc _)).mono ?_; rintro e w1 ⟨⟨v, rfl, hv⟩, hb⟩; rw [hq] at hv; obtain rfl := hv.no)
      go_ret
      exact ⟨by simp [refB, hq], below2_trans hb⟩
  | true =>
    cases hbu with
    | true =>
      go_enter Tryf.func8, Tryf.ntmps8
      go_wp2_with (go_at_call 10; refine (zzBuiltin F cn s0 s1 s2 s3 s4 s5 s6 s7 t kp _ (by exact hF)).mono ?_; rintro e w1 ⟨⟨a, rfl⟩, hb⟩)
      go_ret
      exact ⟨by simp [refB], below2_trans hb⟩
    | false =>
      cases hq : (keptB k s5 || !(o1.toList == s1.toList)) with
      | true =>
        go_enter Tryf.func8, Tryf.ntmps8
        go_wp2_with (go_at_call 12; refine (zzConnector F cn s0 s1 s2 s3 s4 s5 s6 s7 t o0 o1 o2 o3 o4 o5 o6 o7 ot kp k _ (by exact hF) ((hk.alloc _).alloc _)).mono ?_; rintro e w1 ⟨⟨v, rfl, hv⟩, hb⟩; rw [hq] at hv; obtain ⟨a, rfl⟩ := hv.yes)
        go_ret
        exact ⟨by simp [refB, hq], below2_trans hb⟩
      | false =>
        go_enter Tryf.func8, Tryf.ntmps8
        go_wp2_with (go_at_call 12; refine (zzConnector F cn s0 s1 s2 s3 s4 s5 s6 s7 t o0 o1 o2 o3 o4 o5 o6 o7 ot kp k _ (by exact hF) ((hk.alloc _).alloc _)).mono ?_; rintro e w1 ⟨⟨v, rfl, hv⟩, hb⟩; rw [hq] at hv; obtain rfl := hv.no)
        go_ret
        exact ⟨by simp [refB, hq], below2_trans hb⟩
end Go.Proofs.Qxb6613618aFmt
