import Derived.Test.Qxb6614111aDo
import Derived.Test.Qxb6614111aOut
namespace Go.Proofs.Qxb6614111a
open Go.ChangeShapes Go.WideShapes Go.ChangeAt Go.RowKit

theorem OpsIn.below {w w' : World} {a : Option Addr} {n : Nat} {K T X : Nat → Int} (h : OpsIn w a n K T X) (hb : Below w.heap.size w w') : OpsIn w' a n K T X := by
  intro hn
  obtain ⟨b, off, e, hlt, hat⟩ := h hn
  refine ⟨b, off, e, Nat.lt_of_lt_of_le hlt hb.size, fun i hi => ?_⟩
  obtain ⟨e0, e1, e2⟩ := hat i hi
  exact ⟨(bcell hb b _ hlt).trans e0, (bcell hb b _ hlt).trans e1, (bcell hb b _ hlt).trans e2⟩
theorem ScIn.below {w w' : World} {a : Option Addr} {n : Nat} {S : Nat → Nat} (h : ScIn w a n S) (hb : Below w.heap.size w w') : ScIn w' a n S := by
  intro hn
  obtain ⟨b, off, e, hlt, hat⟩ := h hn
  exact ⟨b, off, e, Nat.lt_of_lt_of_le hlt hb.size, fun i hi => (bcell hb b _ hlt).trans (hat i hi)⟩

/-- the output's cells: the prefix, then the operations at the script's first k places -/
def FillG (xs : List Value) (np k : Nat) (K T X KP TP XP : Nat → Int) (S : Nat → Nat) : Prop :=
  Filled xs np KP TP XP ∧ ∀ j, j < k → xs[(np + j) * 3]? = some (.int .u8 (K (S j))) ∧ xs[(np + j) * 3 + 1]? = some (.int .i32 (T (S j))) ∧ xs[(np + j) * 3 + 2]? = some (.int .i32 (X (S j)))

theorem fillG_step {xs : List Value} {np k : Nat} {K T X KP TP XP : Nat → Int} {S : Nat → Nat} (h : FillG xs np k K T X KP TP XP S) (hl : xs.length = (np + k) * 3) :
    FillG (xs ++ [.int .u8 (K (S k)), .int .i32 (T (S k)), .int .i32 (X (S k))]) np (k + 1) K T X KP TP XP S := by
  refine ⟨fun i hi => ?_, fun j hj => ?_⟩
  · obtain ⟨a, b, c⟩ := h.1 i hi
    rw [List.getElem?_append_left (by omega), List.getElem?_append_left (by omega), List.getElem?_append_left (by omega)]
    exact ⟨a, b, c⟩
  · by_cases e : j = k
    · subst e
      rw [List.getElem?_append_right (by omega), List.getElem?_append_right (by omega), List.getElem?_append_right (by omega)]
      have e0 : (np + j) * 3 - xs.length = 0 := by omega
      have e1 : (np + j) * 3 + 1 - xs.length = 1 := by omega
      have e2 : (np + j) * 3 + 2 - xs.length = 2 := by omega
      rw [e0, e1, e2]
      exact ⟨rfl, rfl, rfl⟩
    · obtain ⟨a, b, c⟩ := h.2 j (by omega)
      rw [List.getElem?_append_left (by omega), List.getElem?_append_left (by omega), List.getElem?_append_left (by omega)]
      exact ⟨a, b, c⟩

/-- between two steps of the script: the scheduler bs over the history bh whose operations lie at bo -/
def Inv (w wr : World) (bs bh bo nops np k : Nat) (K T X KP TP XP : Nat → Int) (S : Nat → Nat) : Prop :=
  Below w.heap.size w wr ∧ (w.heap.size ≤ bs ∧ bs < wr.heap.size ∧ bh < wr.heap.size ∧ bo < wr.heap.size ∧ bh ≠ bs ∧ bo ≠ bs) ∧
  (wr.cell? ⟨bs, 0, none⟩ = some (.pointer (some ⟨bh, 0, none⟩)) ∧ wr.cell? ⟨bs, 2, none⟩ = some (.pointer none) ∧ wr.cell? ⟨bs, 14, none⟩ = some (.slice none 0 0) ∧ wr.frozen? ⟨bs, 3, none⟩ = false) ∧
  wr.cell? ⟨bh, 0, none⟩ = some (.slice (some ⟨bo, 0, none⟩) nops nops) ∧ OpsAt wr bo 0 nops K T X ∧
  ∃ g cap xs, wr.cell? ⟨bs, 3, none⟩ = some (.slice (some ⟨g, 0, none⟩) (np + k) cap) ∧ wr.ownsRow w.heap.size 43 3 (.slice (some ⟨g, 0, none⟩) (np + k) cap) (np + k) xs ∧ FillG xs np k K T X KP TP XP S ∧
    (g ≠ bs ∧ g ≠ bh ∧ g ≠ bo ∧ w.heap.size ≤ g)

theorem inv_step {w wr w' : World} {bs bh bo nops np k g cap : Nat} {K T X KP TP XP : Nat → Int} {S : Nat → Nat} {xs : List Value}
    (h : Inv w wr bs bh bo nops np k K T X KP TP XP S) (hown : wr.ownsRow w.heap.size 43 3 (.slice (some ⟨g, 0, none⟩) (np + k) cap) (np + k) xs) (hfill : FillG xs np k K T X KP TP XP S)
    (hne : g ≠ bs ∧ g ≠ bh ∧ g ≠ bo ∧ w.heap.size ≤ g)
    (hd : Did wr w' bs w.heap.size (np + k) (.slice (some ⟨g, 0, none⟩) (np + k) cap) xs [.int .u8 (K (S k)), .int .i32 (T (S k)), .int .i32 (X (S k))]) :
    Inv w w' bs bh bo nops np (k + 1) K T X KP TP XP S := by
  obtain ⟨hB, ⟨q1, q2, q3, q4, q5, q6⟩, ⟨c0, c2, c14, _⟩, hh, hops, _⟩ := h
  obtain ⟨n1, n2, n3, n4⟩ := hne
  obtain ⟨g', cap', d3, df, down, dat, dB, dcell, dsz⟩ := hd
  have ob : (Value.slice (some ⟨g, 0, none⟩) (np + k) cap).ownBlock = some g := rfl
  rw [ob] at dat dB dcell
  have hbs : some g ≠ some bs := fun e => n1 (Option.some.inj e)
  have hbh : some g ≠ some bh := fun e => n2 (Option.some.inj e)
  have hbo : some g ≠ some bo := fun e => n3 (Option.some.inj e)
  have hg' : g' = g ∨ wr.heap.size ≤ g' := by
    rcases dat with e | e
    · exact .inl (Option.some.inj e).symm
    · exact .inr e
  have hBB : Below w.heap.size w w' := hB.trans (dB w.heap.size q1 (fun x e => by obtain rfl := Option.some.inj e; exact n4) hB.size)
  refine ⟨hBB, ⟨q1, by omega, by omega, by omega, q5, q6⟩, ⟨?_, ?_, ?_, df⟩, ?_, ?_, g', cap', _, d3, down, fillG_step hfill hown.1, ?_⟩
  · rw [dcell bs 0 q2 hbs (fun _ => by omega)]; exact c0
  · rw [dcell bs 2 q2 hbs (fun _ => by omega)]; exact c2
  · rw [dcell bs 14 q2 hbs (fun _ => by omega)]; exact c14
  · rw [dcell bh 0 q3 hbh (fun e => absurd e q5)]; exact hh
  · intro i hi
    obtain ⟨a, b, c⟩ := hops i hi
    rw [dcell bo _ q4 hbo (fun e => absurd e q6), dcell bo _ q4 hbo (fun e => absurd e q6), dcell bo _ q4 hbo (fun e => absurd e q6)]
    exact ⟨a, b, c⟩
  · have := hB.size
    rcases hg' with rfl | e
    · exact ⟨n1, n2, n3, n4⟩
    · exact ⟨by omega, by omega, by omega, by omega⟩

set_option maxHeartbeats 1000000 in
theorem zzdo_any {w wr : World} {bs bh bo nops np k : Nat} {K T X KP TP XP : Nat → Int} {S : Nat → Nat} (h : Inv w wr bs bh bo nops np k K T X KP TP XP S) (hS : S k < nops) (hn : np + k ≤ 200000) :
    Calls Try.prog 7 #[.pointer (some ⟨bs, 0, none⟩), .int .i64 ((S k : Nat) : Int)] wr fun e w' => e = .returned (.tuple #[]) ∧ Inv w w' bs bh bo nops np (k + 1) K T X KP TP XP S := by
  have h' := h
  obtain ⟨hB, ⟨q1, q2, q3, q4, q5, q6⟩, ⟨c0, c2, c14, hf⟩, hh, hops, g, cap, xs, c3, hown, hfill, hne⟩ := h
  obtain ⟨e0, e1, e2⟩ := hops (S k) hS
  simp only [Nat.zero_add] at e0 e1 e2
  have hd := do_any bs bh bo nops (S k) w.heap.size (np + k) (K (S k)) (T (S k)) (X (S k)) _ xs wr c0 c2 c3 hf hh e0 e1 e2 hS hown hn hB.size q2 (fun e => hne.1 (Option.some.inj e))
  have HD : Hid (Calls Try.prog 11 #[.pointer (some ⟨bs, 0, none⟩), .int .i64 ((S k : Nat) : Int)] wr fun e w' => e = .returned (.tuple #[]) ∧ Did wr w' bs w.heap.size (np + k) (.slice (some ⟨g, 0, none⟩) (np + k) cap) xs [.int .u8 (K (S k)), .int .i32 (T (S k)), .int .i32 (X (S k))]) := hd
  have HI : Hid (Inv w wr bs bh bo nops np k K T X KP TP XP S) := h'
  have HO : Hid (wr.ownsRow w.heap.size 43 3 (.slice (some ⟨g, 0, none⟩) (np + k) cap) (np + k) xs) := hown
  have HF : Hid (FillG xs np k K T X KP TP XP S) := hfill
  clear hd h' hown hfill e0 e1 e2 hops hh c0 c2 c14 c3 hf hB
  go_enter Try.func7, Try.ntmps7
  go_wp2_with (go_at_call 11; refine HD.out.mono ?_; rintro e w1 ⟨rfl, hdid⟩)
  go_end0
  exact ⟨rfl, inv_step HI.out HO.out HF.out hne hdid⟩
end Go.Proofs.Qxb6614111a
