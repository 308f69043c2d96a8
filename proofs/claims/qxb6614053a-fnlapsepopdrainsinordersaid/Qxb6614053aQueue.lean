import Derived.Test.Qxb6614053aKey
import Derived.Test.Qxb6614053aSub
import Derived.Test.Qxb6614053aPlain
namespace Go.Proofs.Qxb6614053a
open Go.ChangeShapes Go.WideShapes Go.ChangeAt Go.RowKit

/-- the 35 cells of the entry with id i: its key, and the time Z i -/
def ent (Z : Nat → Int) (i : Nat) : List Value := (keyCells (i : Int)).toList ++ [.int .u64 (Z i % 1000000000), .int .i64 (Z i / 1000000000), .pointer none]
theorem ent_len (Z : Nat → Int) (i : Nat) : (ent Z i).length = 35 := rfl
theorem ent_one (Z : Nat → Int) (i : Nat) : (ent Z i).toArray.all (·.oneCell') = true := by simp [ent, Value.oneCell']

def Geo (w : World) (bq gp np cp n : Nat) (PB PL PC : Nat → Nat) : Prop :=
  (w.cell? ⟨bq, 0, none⟩ = some (.slice (some ⟨gp, 0, none⟩) np cp) ∧ w.cell? ⟨bq, 1, none⟩ = some (.int .i64 n)) ∧
  (∀ j, j < np → w.cell? ⟨gp, j, none⟩ = some (.slice (some ⟨PB j, 0, none⟩) (PL j) (PC j))) ∧
  (∀ j, j < np → PB j < w.heap.size ∧ PB j ≠ bq ∧ PB j ≠ gp) ∧ (∀ i j, i < np → j < np → PB i = PB j → i = j) ∧ (bq < w.heap.size ∧ gp < w.heap.size ∧ bq ≠ gp ∧ n ≤ 65536) ∧
  (∀ i, i < n → i / 1024 < np ∧ i % 1024 < PL (i / 1024))
def Ents (w : World) (n : Nat) (PB : Nat → Nat) (Z : Nat → Int) (a : Nat → Nat) : Prop :=
  ∀ i, i < n → w.rangeAt (PB (i / 1024)) (i % 1024 * 35) (ent Z (a i)) ∧ w.there (PB (i / 1024)) (i % 1024 * 35) 35
/-- each row has kept its kind and its size -/
def Shape (w w' : World) : Prop := ∀ (b e : Nat) (cur : Array Value), w.heap[b]? = some (.cells cur e (0, 0)) → ∃ cur' : Array Value, w'.heap[b]? = some (.cells cur' e (0, 0)) ∧ cur'.size = cur.size
theorem Shape.refl (w : World) : Shape w w := fun _ _ cur h => ⟨cur, h, rfl⟩
theorem Shape.trans {a b c : World} (h : Shape a b) (k : Shape b c) : Shape a c := fun x e cur hx => by
  obtain ⟨c1, h1, s1⟩ := h x e cur hx
  obtain ⟨c2, h2, s2⟩ := k x e c1 h1
  exact ⟨c2, h2, s2.trans s1⟩
theorem Shape.of_below {w w' : World} (h : Below w.heap.size w w') : Shape w w' := fun b _ cur hb => ⟨cur, (h.block b (by
  rcases Nat.lt_or_ge b w.heap.size with hl | hg
  · exact hl
  · rw [Array.getElem?_eq_none hg] at hb; cases hb)).trans hb, rfl⟩
theorem Shape.setCell {w x : World} (h : Shape w x) (g i : Nat) (v : Value) : Shape w (x.setCell ⟨g, i, none⟩ v) := fun b e cur hb => by
  obtain ⟨c1, h1, s1⟩ := h b e cur hb
  by_cases e1 : b = g
  · subst e1
    exact ⟨_, heap_setCell_same x b i c1 e v h1, by simpa using s1⟩
  · exact ⟨c1, (heap_setCell_other x ⟨g, i, none⟩ b v e1).trans h1, s1⟩
/-- nothing but the pages' blocks has turned -/
def Kept (np : Nat) (PB : Nat → Nat) (w w' : World) : Prop :=
  (w'.os = w.os ∧ w'.tape = w.tape ∧ w'.output = w.output ∧ Shape w w') ∧ w.heap.size ≤ w'.heap.size ∧ ∀ b, b < w.heap.size → (∀ j, j < np → b ≠ PB j) → w'.heap[b]? = w.heap[b]?

theorem Kept.refl (np : Nat) (PB : Nat → Nat) (w : World) : Kept np PB w w := ⟨⟨rfl, rfl, rfl, Shape.refl w⟩, Nat.le_refl _, fun _ _ _ => rfl⟩
theorem Kept.trans {np : Nat} {PB : Nat → Nat} {a b c : World} (h : Kept np PB a b) (k : Kept np PB b c) : Kept np PB a c :=
  ⟨⟨k.1.1.trans h.1.1, k.1.2.1.trans h.1.2.1, k.1.2.2.1.trans h.1.2.2.1, h.1.2.2.2.trans k.1.2.2.2⟩, Nat.le_trans h.2.1 k.2.1, fun x hx hn => (k.2.2 x (Nat.lt_of_lt_of_le hx h.2.1) hn).trans (h.2.2 x hx hn)⟩
theorem Kept.of_below {np : Nat} {PB : Nat → Nat} {w w' : World} (h : Below w.heap.size w w') : Kept np PB w w' := ⟨⟨h.os, h.tape, h.output, Shape.of_below h⟩, h.size, fun b hb _ => h.block b hb⟩
theorem Kept.below {np B : Nat} {PB : Nat → Nat} {w w' : World} (h : Kept np PB w w') (hB : ∀ j, j < np → B ≤ PB j) (hw : B ≤ w.heap.size) : Below B w w' :=
  ⟨h.1.1, h.1.2.1, h.1.2.2.1, h.2.1, fun b hb => h.2.2 b (by omega) (fun j hj e => by have := hB j hj; omega)⟩
theorem Kept.cell {np : Nat} {PB : Nat → Nat} {w w' : World} (h : Kept np PB w w') {b : Nat} (hb : b < w.heap.size) (hn : ∀ j, j < np → b ≠ PB j) (o : Nat) : w'.cell? ⟨b, o, none⟩ = w.cell? ⟨b, o, none⟩ :=
  World.cell?_of_block (w := w) (a := ⟨b, o, none⟩) (h.2.2 b hb hn)
theorem Kept.geo {bq gp np cp n : Nat} {PB PL PC : Nat → Nat} {w w' : World} (h : Kept np PB w w') (g : Geo w bq gp np cp n PB PL PC) : Geo w' bq gp np cp n PB PL PC := by
  obtain ⟨⟨g1, g2⟩, g3, g4, g5, ⟨g6, g7, g8⟩, g9⟩ := g
  have nb : ∀ j, j < np → bq ≠ PB j := fun j hj e => (g4 j hj).2.1 e.symm
  have ng : ∀ j, j < np → gp ≠ PB j := fun j hj e => (g4 j hj).2.2 e.symm
  exact ⟨⟨(h.cell g6 nb 0).trans g1, (h.cell g6 nb 1).trans g2⟩, fun j hj => (h.cell g7 ng j).trans (g3 j hj), fun j hj => ⟨Nat.lt_of_lt_of_le (g4 j hj).1 h.2.1, (g4 j hj).2⟩, g5, ⟨Nat.lt_of_lt_of_le g6 h.2.1, Nat.lt_of_lt_of_le g7 h.2.1, g8⟩, g9⟩

set_option maxHeartbeats 400000 in
theorem at_core (bq gp np cp i pb pl pc : Nat) (w : World) (hn : i < 65536) (hp : i / 1024 < np) (hr : i % 1024 < pl) (g1 : w.cell? ⟨bq, 0, none⟩ = some (.slice (some ⟨gp, 0, none⟩) np cp))
    (c : w.cell? ⟨gp, i / 1024, none⟩ = some (.slice (some ⟨pb, 0, none⟩) pl pc)) :
    Calls Try.prog 35 #[.pointer (some ⟨bq, 0, none⟩), .int .i64 i] w fun e w' => e = .returned (.pointer (some ⟨pb, i % 1024 * 35, none⟩)) ∧ w' = w := by
  obtain ⟨p, ep⟩ : ∃ p, i / 1024 = p := ⟨_, rfl⟩
  obtain ⟨r, er⟩ : ∃ r, i % 1024 = r := ⟨_, rfl⟩
  rw [ep] at c hp
  rw [er] at hr ⊢
  have e1 : (i : Int) / 1024 = (p : Int) := by omega
  have e2 : (i : Int) % 1024 = (r : Int) := by omega
  have e3 : (p : Int) < (np : Int) := by omega
  have e4 : (r : Int) < (pl : Int) := by omega
  have e5 : p ≤ 64 := by omega
  have e6 : r < 1024 := by omega
  clear ep er hp hr
  go_enter Try.func35, Try.ntmps35
  go_wp2
  go_ret
  exact ⟨rfl, rfl⟩
theorem at_any {bq gp np cp n : Nat} {PB PL PC : Nat → Nat} {w : World} (g : Geo w bq gp np cp n PB PL PC) (i : Nat) (hi : i < n) :
    Calls Try.prog 35 #[.pointer (some ⟨bq, 0, none⟩), .int .i64 i] w fun e w' => e = .returned (.pointer (some ⟨PB (i / 1024), i % 1024 * 35, none⟩)) ∧ w' = w := by
  obtain ⟨⟨g1, _⟩, g3, _, _, ⟨_, _, _, hn⟩, g9⟩ := g
  obtain ⟨hp, hr⟩ := g9 i hi
  exact at_core bq gp np cp i _ _ _ w (by omega) hp hr g1 (g3 _ hp)

theorem ent_wall {Z : Nat → Int} {w : World} {b o e : Nat} (h : w.rangeAt b o (ent Z e)) : w.cell? ⟨b, o + 32, none⟩ = some (.int .u64 (Z e % 1000000000)) ∧ w.cell? ⟨b, o + 32 + 1, none⟩ = some (.int .i64 (Z e / 1000000000)) ∧ w.cell? ⟨b, o + 32 + 2, none⟩ = some (.pointer none) :=
  ⟨h 32 _ rfl, h 33 _ rfl, h 34 _ rfl⟩

set_option maxHeartbeats 1000000 in
theorem less_any {bq gp np cp n : Nat} {PB PL PC : Nat → Nat} {Z : Nat → Int} {a : Nat → Nat} {w : World} (g : Geo w bq gp np cp n PB PL PC) (E : Ents w n PB Z a) (i j : Nat) (hi : i < n) (hj : j < n) :
    Calls Try.prog 53 #[.pointer (some ⟨bq, 0, none⟩), .int .i64 i, .int .i64 j] w fun e w' => e = .returned (.bool (decide (Z (a i) < Z (a j)))) ∧ Below w.heap.size w w' := by
  obtain ⟨⟨g1, _⟩, g3, g4, _, ⟨lq, lg, _, hn⟩, g9⟩ := g
  obtain ⟨hpi, hri⟩ := g9 i hi
  obtain ⟨hpj, hrj⟩ := g9 j hj
  have ci := g3 _ hpi
  have cj := g3 _ hpj
  have li := (g4 _ hpi).1
  have lj := (g4 _ hpj).1
  obtain ⟨i0, i1, i2⟩ := ent_wall (E i hi).1
  obtain ⟨j0, j1, j2⟩ := ent_wall (E j hj).1
  have hin : i < 65536 := by omega
  have hjn : j < 65536 := by omega
  have hd : decide (Z (a i) / 1000000000 < Z (a j) / 1000000000 ∨ (Z (a i) / 1000000000 = Z (a j) / 1000000000 ∧ Z (a i) % 1000000000 < Z (a j) % 1000000000)) = decide (Z (a i) < Z (a j)) := by
    rw [decide_eq_decide]; omega
  rw [← hd]
  have x0 : 0 ≤ Z (a i) % 1000000000 := by omega
  have x1 : Z (a i) % 1000000000 < 1000000000 := by omega
  have y0 : 0 ≤ Z (a j) % 1000000000 := by omega
  have y1 : Z (a j) % 1000000000 < 1000000000 := by omega
  have HB := fun w => before_any (Z (a i) % 1000000000) (Z (a i) / 1000000000) (Z (a j) % 1000000000) (Z (a j) / 1000000000) w x0 x1 y0 y1
  generalize Z (a i) % 1000000000 = xi at *
  generalize Z (a j) % 1000000000 = xj at *
  generalize Z (a i) / 1000000000 = yi at *
  generalize Z (a j) / 1000000000 = yj at *
  clear hd E g3 g4 g9
  obtain ⟨pi, epi⟩ : ∃ x, PB (i / 1024) = x := ⟨_, rfl⟩
  obtain ⟨pj, epj⟩ : ∃ x, PB (j / 1024) = x := ⟨_, rfl⟩
  rw [epi] at ci li i0 i1 i2
  rw [epj] at cj lj j0 j1 j2
  have HI : Hid (∀ x : World, x.cell? ⟨bq, 0, none⟩ = some (.slice (some ⟨gp, 0, none⟩) np cp) → x.cell? ⟨gp, i / 1024, none⟩ = some (.slice (some ⟨pi, 0, none⟩) (PL (i / 1024)) (PC (i / 1024))) →
      Calls Try.prog 35 #[.pointer (some ⟨bq, 0, none⟩), .int .i64 i] x fun e w' => e = .returned (.pointer (some ⟨pi, i % 1024 * 35, none⟩)) ∧ w' = x) := fun x h1 h2 => at_core bq gp np cp i _ _ _ x hin hpi hri h1 h2
  have HJ : Hid (∀ x : World, x.cell? ⟨bq, 0, none⟩ = some (.slice (some ⟨gp, 0, none⟩) np cp) → x.cell? ⟨gp, j / 1024, none⟩ = some (.slice (some ⟨pj, 0, none⟩) (PL (j / 1024)) (PC (j / 1024))) →
      Calls Try.prog 35 #[.pointer (some ⟨bq, 0, none⟩), .int .i64 j] x fun e w' => e = .returned (.pointer (some ⟨pj, j % 1024 * 35, none⟩)) ∧ w' = x) := fun x h1 h2 => at_core bq gp np cp j _ _ _ x hjn hpj hrj h1 h2
  have HBB : Hid (∀ w, Calls Try.prog 34 #[.agg #[.int .u64 xi, .int .i64 yi, .pointer none], .agg #[.int .u64 xj, .int .i64 yj, .pointer none]] w
      fun e w' => e = .returned (.bool (decide (yi < yj ∨ (yi = yj ∧ xi < xj)))) ∧ Below w.heap.size w w') := HB
  clear HB epi epj hpi hpj hri hrj hin hjn
  generalize i % 1024 * 35 = oi at *
  generalize j % 1024 * 35 = oj at *
  go_enter Try.func53, Try.ntmps53
  go_wp2
  go_region_held3 (fun x => ∀ b o, b < w.heap.size → x.cell? ⟨b, o, none⟩ = w.cell? ⟨b, o, none⟩) (first | exact fun b o h => rfl | exact hc1)
    (first
    | (go_at_call_of 35 i; refine (HI.out _ (by go_simp) (by go_simp)).mono ?_; rintro e w1 ⟨rfl, hw⟩; obtain rfl := hw.symm)
    | (go_at_call_of 35 j; refine (HJ.out _ (by go_simp) (by go_simp)).mono ?_; rintro e w1 ⟨rfl, hw⟩; obtain rfl := hw.symm)
    | (go_at_call 34; refine (HBB.out _).mono ?_; rintro e w1 ⟨rfl, hb⟩; have hB1 := below_d hb; clear hb; have hc1 := bcell hB1))
  go_wp2
  go_ret
  exact ⟨ret_bool (by simp), hB1⟩
end Go.Proofs.Qxb6614053a
