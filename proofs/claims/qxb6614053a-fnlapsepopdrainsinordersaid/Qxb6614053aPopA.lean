import Derived.Test.Qxb6614053aDropB
namespace Go.Proofs.Qxb6614053a
open Go.ChangeShapes Go.WideShapes Go.ChangeAt Go.RowKit

/-- nothing below B, and nothing from C on, has turned -/
def Keep (B C : Nat) (w w' : World) : Prop := (w'.os = w.os ∧ w'.tape = w.tape ∧ w'.output = w.output) ∧ w.heap.size ≤ w'.heap.size ∧ ∀ b, b < w.heap.size → (b < B ∨ C ≤ b) → w'.heap[b]? = w.heap[b]?
theorem Keep.refl (B C : Nat) (w : World) : Keep B C w w := ⟨⟨rfl, rfl, rfl⟩, Nat.le_refl _, fun _ _ _ => rfl⟩
theorem Keep.trans {B C : Nat} {a b c : World} (h : Keep B C a b) (k : Keep B C b c) : Keep B C a c :=
  ⟨⟨k.1.1.trans h.1.1, k.1.2.1.trans h.1.2.1, k.1.2.2.trans h.1.2.2⟩, Nat.le_trans h.2.1 k.2.1, fun x hx hn => (k.2.2 x (Nat.lt_of_lt_of_le hx h.2.1) hn).trans (h.2.2 x hx hn)⟩
theorem Keep.of_below {B C : Nat} {w w' : World} (h : Below w.heap.size w w') : Keep B C w w' := ⟨⟨h.os, h.tape, h.output⟩, h.size, fun b hb _ => h.block b hb⟩
theorem Keep.below {B C : Nat} {w w' : World} (h : Keep B C w w') (hB : B ≤ w.heap.size) : Below B w w' := ⟨h.1.1, h.1.2.1, h.1.2.2, h.2.1, fun b hb => h.2.2 b (by omega) (.inl hb)⟩

structure PopSt (B C : Nat) (w : World) (bq n : Nat) (Z : Nat → Int) (a : Nat → Nat) (gp cp np : Nat) (PB PL PC : Nat → Nat) : Prop where
  geo : Geo w bq gp np cp n PB PL PC
  ents : Ents w n PB Z a
  fq : w.frozen? ⟨bq, 0, none⟩ = false ∧ w.frozen? ⟨bq, 1, none⟩ = false
  fg : ∀ j, j < np → w.frozen? ⟨gp, j, none⟩ = false
  cnt : n ≤ np * 1024 ∧ np * 1024 < n + 1024
  len : ∀ j, j < np → PL j = min 1024 (n - j * 1024) ∧ PL j ≤ PC j
  lim : (B ≤ bq ∧ bq < C) ∧ (B ≤ gp ∧ gp < C) ∧ (∀ j, j < np → B ≤ PB j ∧ PB j < C) ∧ C ≤ w.heap.size ∧ np ≤ cp

/-- the queue in the popping phase -/
def P (B C : Nat) (w : World) (bq n : Nat) (Z : Nat → Int) (a : Nat → Nat) : Prop := ∃ gp cp np PB PL PC, PopSt B C w bq n Z a gp cp np PB PL PC

theorem PopSt.qs {B C : Nat} {w w' : World} {bq n : Nat} {Z : Nat → Int} {a a' : Nat → Nat} {gp cp np : Nat} {PB PL PC : Nat → Nat} (h : PopSt B C w bq n Z a gp cp np PB PL PC) (k : QS w w' bq gp np cp n PB PL PC Z a') :
    PopSt B C w' bq n Z a' gp cp np PB PL PC ∧ Keep B C w w' := by
  obtain ⟨⟨_, _⟩, _, g4, _, ⟨lq, lg, _, _⟩, _⟩ := h.geo
  obtain ⟨kg, ke, kk⟩ := k
  have hq := kk.2.2 bq lq (fun j hj => Ne.symm (g4 j hj).2.1)
  have hg := kk.2.2 gp lg (fun j hj => Ne.symm (g4 j hj).2.2)
  refine ⟨⟨kg, ke, ⟨?_, ?_⟩, fun j hj => ?_, h.cnt, h.len, ⟨h.lim.1, h.lim.2.1, h.lim.2.2.1, Nat.le_trans h.lim.2.2.2.1 kk.2.1, h.lim.2.2.2.2⟩⟩, ⟨⟨kk.1.1, kk.1.2.1, kk.1.2.2.1⟩, kk.2.1, fun b hb hc => kk.2.2 b hb (fun j hj e => ?_)⟩⟩
  · exact (World.frozen?_of_block (w := w) (a := ⟨bq, 0, none⟩) hq).trans h.fq.1
  · exact (World.frozen?_of_block (w := w) (a := ⟨bq, 1, none⟩) hq).trans h.fq.2
  · exact (World.frozen?_of_block (w := w) (a := ⟨gp, j, none⟩) hg).trans (h.fg j hj)
  · have := h.lim.2.2.1 j hj
    omega
theorem PopSt.self {B C : Nat} {w : World} {bq n : Nat} {Z : Nat → Int} {a : Nat → Nat} {gp cp np : Nat} {PB PL PC : Nat → Nat} (h : PopSt B C w bq n Z a gp cp np PB PL PC) : QS w w bq gp np cp n PB PL PC Z a := ⟨h.geo, h.ents, Kept.refl _ _ _⟩
theorem P.kept {B C : Nat} {w w' : World} {bq n : Nat} {Z : Nat → Int} {a : Nat → Nat} (h : P B C w bq n Z a) (hb : Below w.heap.size w w') : P B C w' bq n Z a := by
  obtain ⟨gp, cp, np, PB, PL, PC, h⟩ := h
  have k : Kept np PB w w' := Kept.of_below hb
  exact ⟨gp, cp, np, PB, PL, PC, (h.qs ⟨k.geo h.geo, ents_below h.geo h.ents hb, k⟩).1⟩
theorem P.len {B C : Nat} {w : World} {bq n : Nat} {Z : Nat → Int} {a : Nat → Nat} (h : P B C w bq n Z a) : w.cell? ⟨bq, 1, none⟩ = some (.int .i64 n) := by
  obtain ⟨gp, cp, np, PB, PL, PC, h⟩ := h
  exact h.geo.1.2

theorem ents_blocks {w w' : World} {n m np : Nat} {PB : Nat → Nat} {Z : Nat → Int} {a : Nat → Nat} (h : Ents w n PB Z a) (hm : m ≤ n) (hp : ∀ i, i < m → i / 1024 < np) (hb : ∀ j, j < np → w'.heap[PB j]? = w.heap[PB j]?) : Ents w' m PB Z a := fun i hi => by
  have e := hb _ (hp i hi)
  have hE := h i (by omega)
  exact ⟨range_of_block hE.1 e, fun j hj => by
    have := hE.2 j hj
    exact ⟨by rw [World.cell?_of_block (w := w) (a := ⟨PB (i / 1024), i % 1024 * 35 + j, none⟩) e]; exact this.1, by rw [World.frozen?_of_block (w := w) (a := ⟨PB (i / 1024), i % 1024 * 35 + j, none⟩) e]; exact this.2⟩⟩

theorem drop_mk {B C : Nat} {w w' : World} {bq n : Nat} {Z : Nat → Int} {a : Nat → Nat} {gp cp q np' : Nat} {PB PL PC : Nat → Nat} (h : PopSt B C w bq (n + 1) Z a gp cp (q + 1) PB PL PC) (p1 : Nat) (hp1 : PL q = p1 + 1) (hnq : n = q * 1024 + p1) (hp2 : p1 < 1024)
    (sm : w'.os = w.os ∧ w'.tape = w.tape ∧ w'.output = w.output) (sz : w.heap.size ≤ w'.heap.size) (far : ∀ b, b < w.heap.size → b ≠ bq → b ≠ gp → w'.heap[b]? = w.heap[b]?)
    (c0 : w'.cell? ⟨bq, 0, none⟩ = some (.slice (some ⟨gp, 0, none⟩) np' cp)) (c1 : w'.cell? ⟨bq, 1, none⟩ = some (.int .i64 n)) (f0 : w'.frozen? ⟨bq, 0, none⟩ = false) (f1 : w'.frozen? ⟨bq, 1, none⟩ = false)
    (cgj : ∀ j, j < q → w'.cell? ⟨gp, j, none⟩ = w.cell? ⟨gp, j, none⟩) (fgj : ∀ j, w'.frozen? ⟨gp, j, none⟩ = w.frozen? ⟨gp, j, none⟩)
    (alt : (p1 = 0 ∧ np' = q) ∨ (p1 ≠ 0 ∧ np' = q + 1 ∧ w'.cell? ⟨gp, q, none⟩ = some (.slice (some ⟨PB q, 0, none⟩) p1 (PC q)))) : P B C w' bq n Z a ∧ Keep B C w w' := by
  obtain ⟨⟨g1, g2⟩, g3, g4, g5, ⟨lq, lg, hbg, hn⟩, g9⟩ := h.geo
  have hlim := h.lim
  have hlq := h.len q (by omega)
  have hnp : np' ≤ q + 1 := by omega
  have hnp1 : ∀ i, i < n → i / 1024 < np' := fun i hi => by omega
  refine ⟨⟨gp, cp, np', PB, (fun j => if j = q then p1 else PL j), PC, ⟨⟨⟨c0, c1⟩, fun j hj => ?_, fun j hj => ?_, fun i j hi hj => g5 i j (by omega) (by omega), ⟨by omega, by omega, hbg, by omega⟩, fun i hi => ⟨hnp1 i hi, ?_⟩⟩, ?_, ⟨f0, f1⟩, fun j hj => ?_, ?_, fun j hj => ?_, ?_⟩⟩, ⟨sm, sz, fun b hb hc => far b hb (by omega) (by omega)⟩⟩
  · by_cases e : j = q
    · subst e
      rcases alt with ⟨_, e2⟩ | ⟨_, _, hc⟩
      · omega
      · simp only [if_true]; exact hc
    · simp only [if_neg e]; rw [cgj j (by omega)]; exact g3 j (by omega)
  · have := g4 j (by omega)
    exact ⟨by omega, this.2⟩
  · have h9 := (g9 i (by omega)).2
    by_cases e : i / 1024 = q
    · simp only [if_pos e]; omega
    · simp only [if_neg e]; exact h9
  · exact ents_blocks (np := np') h.ents (by omega) hnp1 (fun j hj => by
      have := g4 j (by omega)
      exact far _ this.1 this.2.1 this.2.2)
  · rw [fgj]; exact h.fg j (by omega)
  · have := h.cnt
    rcases alt with ⟨e1, e2⟩ | ⟨e1, e2, _⟩ <;> subst e2 <;> omega
  · have hl := h.len j (by omega)
    by_cases e : j = q
    · subst e; rw [if_pos rfl]; omega
    · rw [if_neg e]
      have hj2 : j < q := by omega
      have : (j + 1) * 1024 ≤ q * 1024 := Nat.mul_le_mul_right _ hj2
      omega
  · exact ⟨hlim.1, hlim.2.1, fun j hj => hlim.2.2.1 j (by omega), by omega, by omega⟩

theorem cell_setCells_other {r : Nat} {x : World} {b i o : Nat} {vs : List Value} (h : b ≠ r) : (x.setCells r o vs).cell? ⟨b, i, none⟩ = x.cell? ⟨b, i, none⟩ := World.cell?_of_block (w := x) (a := ⟨b, i, none⟩) (heap_setCells_other vs o x b h)
theorem frozen_setCells_other {r : Nat} {x : World} {b i o : Nat} {vs : List Value} (h : b ≠ r) : (x.setCells r o vs).frozen? ⟨b, i, none⟩ = x.frozen? ⟨b, i, none⟩ := World.frozen?_of_block (w := x) (a := ⟨b, i, none⟩) (heap_setCells_other vs o x b h)
theorem cell_at_other {x : World} {b i j : Nat} {v : Value} (h : i ≠ j) : (x.setCell ⟨b, i, none⟩ v).cell? ⟨b, j, none⟩ = x.cell? ⟨b, j, none⟩ := World.cell?_setCell_other x ⟨b, i, none⟩ ⟨b, j, none⟩ v (by first | exact fun e => h (Addr.mk.inj e).2.1 | exact fun e => h (Addr.mk.inj e).2.1.symm | simp [h] | simp [Ne.symm h])

/-- dropLast -/
theorem drop_any {B C : Nat} {w : World} {bq n : Nat} {Z : Nat → Int} {a : Nat → Nat} (h : P B C w bq (n + 1) Z a) :
    Calls Try.prog 57 #[.pointer (some ⟨bq, 0, none⟩)] w fun e w' => e = .returned (.agg (ent Z (a n)).toArray) ∧ P B C w' bq n Z a ∧ Keep B C w w' := by
  obtain ⟨gp, cp, np, PB, PL, PC, h⟩ := h
  obtain ⟨⟨g1, g2⟩, g3, g4, g5, ⟨lq, lg, hbg, hn⟩, g9⟩ := h.geo
  have hcnt := h.cnt
  obtain ⟨q, rfl⟩ : ∃ q, np = q + 1 := ⟨np - 1, by omega⟩
  have hlq := h.len q (by omega)
  obtain ⟨p1, hp1⟩ : ∃ p1, PL q = p1 + 1 := ⟨PL q - 1, by omega⟩
  have hnq : n = q * 1024 + p1 := by omega
  have hp2 : p1 < 1024 := by omega
  have hE := h.ents n (by omega)
  rw [show n / 1024 = q by omega, show n % 1024 = p1 by omega] at hE
  have cg := g3 q (by omega)
  have lp := (g4 q (by omega)).1
  have nr : ∀ b, b < w.heap.size → b ≠ w.heap.size := fun b hb => by omega
  have en : (((n + 1 : Nat) : Int) - 1) = (n : Int) := by omega
  have ne10 : (1 : Nat) ≠ 0 := by omega
  have ne01 : (0 : Nat) ≠ 1 := by omega
  by_cases hz : p1 = 0
  · subst hz
    rw [hp1] at cg
    refine (drop_last bq gp (q + 1) cp q (n + 1) (PB q) (PC q) (ent Z (a n)) w hn (by omega) rfl (by omega) h.lim.2.2.2.2 (by omega) (ent_len _ _) (ent_one _ _) g1 g2 h.fq.1 h.fq.2 cg (h.fg q (by omega)) (by simpa using hE.1) lq lg lp hbg).mono ?_
    rintro e w' ⟨rfl, W, ⟨hB, _, _, hs1⟩, rfl⟩
    refine ⟨rfl, drop_mk (np' := q) h 0 hp1 hnq hp2 ?_ ?_ ?_ ?_ ?_ ?_ ?_ ?_ ?_ (.inl ⟨rfl, rfl⟩)⟩
    · rw [(same_setCells _ _ _).1.1, (same_setCells _ _ _).1.2.1, (same_setCells _ _ _).1.2.2]; exact ⟨hB.os, hB.tape, hB.output⟩
    · rw [(same_setCells _ _ _).2]; simp only [World.size_setCell]; show w.heap.size ≤ (W.setCell _ _).heap.size; simp only [World.size_setCell]; omega
    · exact fun b hb h1 h2 => (heap_setCells_other _ _ _ b (nr b hb)).trans ((heap_setCell_other _ ⟨bq, 1, none⟩ b _ h1).trans ((heap_setCell_other _ ⟨bq, 0, none⟩ b _ h1).trans ((heap_setCell_other _ ⟨gp, q, none⟩ b _ h2).trans ((heap_setCell_other W ⟨gp, q, none⟩ b _ h2).trans (hB.block b hb)))))
    · refine (cell_setCells_other (nr _ lq)).trans ((cell_at_other ne10).trans (World.cell?_setCell_same _ ⟨bq, 0, none⟩ _ (u := .slice (some ⟨gp, 0, none⟩) (q + 1) cp) ?_))
      exact (World.cell?_setCell_far _ ⟨gp, q, none⟩ ⟨bq, 0, none⟩ _ (Ne.symm hbg)).trans ((World.cell?_setCell_far W ⟨gp, q, none⟩ ⟨bq, 0, none⟩ _ (Ne.symm hbg)).trans ((hB.cell (p := ⟨bq, 0, none⟩) lq).trans g1))
    · rw [en]
      refine (cell_setCells_other (nr _ lq)).trans (World.cell?_setCell_same _ ⟨bq, 1, none⟩ _ (u := .int .i64 ((n + 1 : Nat) : Int)) ?_)
      exact (cell_at_other ne01).trans ((World.cell?_setCell_far _ ⟨gp, q, none⟩ ⟨bq, 1, none⟩ _ (Ne.symm hbg)).trans ((World.cell?_setCell_far W ⟨gp, q, none⟩ ⟨bq, 1, none⟩ _ (Ne.symm hbg)).trans ((hB.cell (p := ⟨bq, 1, none⟩) lq).trans g2)))
    · refine (frozen_setCells_other (nr _ lq)).trans ?_
      rw [World.frozen?_setCell, World.frozen?_setCell, World.frozen?_setCell]
      exact (World.frozen?_setCell _ _ _ _).trans ((hB.frozen (p := ⟨bq, 0, none⟩) lq).trans h.fq.1)
    · refine (frozen_setCells_other (nr _ lq)).trans ?_
      rw [World.frozen?_setCell, World.frozen?_setCell, World.frozen?_setCell]
      exact (World.frozen?_setCell _ _ _ _).trans ((hB.frozen (p := ⟨bq, 1, none⟩) lq).trans h.fq.2)
    · intro j hj
      have hqj : q ≠ j := by omega
      exact (cell_setCells_other (nr _ lg)).trans ((World.cell?_setCell_far _ ⟨bq, 1, none⟩ ⟨gp, j, none⟩ _ hbg).trans ((World.cell?_setCell_far _ ⟨bq, 0, none⟩ ⟨gp, j, none⟩ _ hbg).trans ((cell_at_other hqj).trans ((cell_at_other (x := W) hqj).trans (hB.cell (p := ⟨gp, j, none⟩) lg)))))
    · intro j
      refine (frozen_setCells_other (nr _ lg)).trans ?_
      rw [World.frozen?_setCell, World.frozen?_setCell, World.frozen?_setCell]
      exact (World.frozen?_setCell _ _ _ _).trans (hB.frozen (p := ⟨gp, j, none⟩) lg)
  · refine (drop_more bq gp (q + 1) cp q (n + 1) (PB q) (PL q) (PC q) p1 (ent Z (a n)) w hn (by omega) rfl (by omega) hp1 (by omega) (by omega) hz (ent_len _ _) (ent_one _ _) g1 g2 h.fq.2 cg (h.fg q (by omega)) hE.1 lq lg lp hbg).mono ?_
    rintro e w' ⟨rfl, W, ⟨hB, _, _, hs1⟩, rfl⟩
    refine ⟨rfl, drop_mk (np' := q + 1) h p1 hp1 hnq hp2 ?_ ?_ ?_ ?_ ?_ ?_ ?_ ?_ ?_ (.inr ⟨hz, rfl, ?_⟩)⟩
    · rw [(same_setCells _ _ _).1.1, (same_setCells _ _ _).1.2.1, (same_setCells _ _ _).1.2.2]; exact ⟨hB.os, hB.tape, hB.output⟩
    · rw [(same_setCells _ _ _).2]; simp only [World.size_setCell]; show w.heap.size ≤ (W.setCell _ _).heap.size; simp only [World.size_setCell]; omega
    · exact fun b hb h1 h2 => (heap_setCells_other _ _ _ b (nr b hb)).trans ((heap_setCell_other _ ⟨bq, 1, none⟩ b _ h1).trans ((heap_setCell_other W ⟨gp, q, none⟩ b _ h2).trans (hB.block b hb)))
    · exact (cell_setCells_other (nr _ lq)).trans ((cell_at_other ne10).trans ((World.cell?_setCell_far W ⟨gp, q, none⟩ ⟨bq, 0, none⟩ _ (Ne.symm hbg)).trans ((hB.cell (p := ⟨bq, 0, none⟩) lq).trans g1)))
    · rw [en]
      refine (cell_setCells_other (nr _ lq)).trans (World.cell?_setCell_same _ ⟨bq, 1, none⟩ _ (u := .int .i64 ((n + 1 : Nat) : Int)) ?_)
      exact (World.cell?_setCell_far W ⟨gp, q, none⟩ ⟨bq, 1, none⟩ _ (Ne.symm hbg)).trans ((hB.cell (p := ⟨bq, 1, none⟩) lq).trans g2)
    · refine (frozen_setCells_other (nr _ lq)).trans ?_
      rw [World.frozen?_setCell]
      exact (World.frozen?_setCell _ _ _ _).trans ((hB.frozen (p := ⟨bq, 0, none⟩) lq).trans h.fq.1)
    · refine (frozen_setCells_other (nr _ lq)).trans ?_
      rw [World.frozen?_setCell]
      exact (World.frozen?_setCell _ _ _ _).trans ((hB.frozen (p := ⟨bq, 1, none⟩) lq).trans h.fq.2)
    · intro j hj
      have hqj : q ≠ j := by omega
      exact (cell_setCells_other (nr _ lg)).trans ((World.cell?_setCell_far _ ⟨bq, 1, none⟩ ⟨gp, j, none⟩ _ hbg).trans ((cell_at_other (x := W) hqj).trans (hB.cell (p := ⟨gp, j, none⟩) lg)))
    · intro j
      refine (frozen_setCells_other (nr _ lg)).trans ?_
      rw [World.frozen?_setCell]
      exact (World.frozen?_setCell _ _ _ _).trans (hB.frozen (p := ⟨gp, j, none⟩) lg)
    · exact (cell_setCells_other (nr _ lg)).trans ((World.cell?_setCell_far _ ⟨bq, 1, none⟩ ⟨gp, q, none⟩ _ hbg).trans (World.cell?_setCell_same W ⟨gp, q, none⟩ _ ((hB.cell (p := ⟨gp, q, none⟩) lg).trans cg)))
end Go.Proofs.Qxb6614053a
