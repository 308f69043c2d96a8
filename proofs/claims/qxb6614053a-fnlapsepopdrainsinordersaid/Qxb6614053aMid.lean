import Derived.Test.Qxb6614053aPushB
import Derived.Test.Qxb6614053aUp
namespace Go.Proofs.Qxb6614053a
open Go.ChangeShapes Go.WideShapes Go.ChangeAt Go.RowKit

theorem lt_of_block {w : World} {b : Nat} {o : Obj} (h : w.heap[b]? = some o) : b < w.heap.size := (Array.getElem?_eq_some_iff.1 h).1
theorem owns_of_block {w w' : World} {B e s g n cap : Nat} {xs : List Value} (h : w.ownsRow B e s (.slice (some ⟨g, 0, none⟩) n cap) n xs) (hb : w'.heap[g]? = w.heap[g]?) : w'.ownsRow B e s (.slice (some ⟨g, 0, none⟩) n cap) n xs := by
  refine ⟨h.1, ?_⟩
  rcases h.2 with ⟨hn, _⟩ | ⟨g1, c1, cur, hv, hB, hg, rest⟩
  · cases hn
  · injection hv with hv1 hv2 hv3
    injection hv1 with hv1
    injection hv1 with hv1 _ _
    subst hv1
    exact .inr ⟨g, c1, cur, by rw [hv3], hB, hb.trans hg, rest⟩
theorem owns_open {w : World} {B e s g n cap : Nat} {xs : List Value} (h : w.ownsRow B e s (.slice (some ⟨g, 0, none⟩) n cap) n xs) :
    B ≤ g ∧ ∃ cur : Array Value, w.heap[g]? = some (.cells cur e (0, 0)) ∧ n ≤ cap ∧ cap ≤ maxLen ∧ cur.size = cap * s ∧ cur.toList.take (n * s) = xs := by
  rcases h.2 with ⟨hn, _⟩ | ⟨g1, c1, cur, hv, hB, hg, rest⟩
  · cases hn
  · injection hv with hv1 hv2 hv3
    injection hv1 with hv1
    injection hv1 with hv1 _ _
    subst hv1
    subst hv3
    exact ⟨hB, cur, hg, rest⟩
theorem take_get {α : Type} {xs ys : List α} {k : Nat} (h : xs.take k = ys) {i : Nat} (hi : i < k) : ys[i]? = xs[i]? := by
  subst h
  rw [List.getElem?_take]
  simp [hi]
theorem ent_lt {Z : Nat → Int} {i j : Nat} {v : Value} (h : (ent Z i)[j]? = some v) : j < 35 := by
  have := (List.getElem?_eq_some_iff.1 h).1
  rw [ent_len] at this
  exact this

/-- every page is full -/
structure Pre (B : Nat) (w0 w : World) (bq n : Nat) (Z : Nat → Int) (a : Nat → Nat) (pv : Value) (np : Nat) (pgs : List Value) (PB PC : Nat → Nat) : Prop where
  low : Below B w0 w
  bB : B ≤ bq ∧ B ≤ w0.heap.size
  blkq : ∃ (cs : Array Value) (t : Nat), w.heap[bq]? = some (.cells cs t (0, 0)) ∧ cs[0]? = some pv ∧ cs[1]? = some (.int .i64 n)
  own : w.ownsRow B 81 1 pv np pgs
  pq : pv.ownBlock ≠ some bq
  pg : ∀ j, j < np → pgs[j]? = some (.slice (some ⟨PB j, 0, none⟩) 1024 (PC j))
  full : ∀ j, j < np → B ≤ PB j ∧ PB j ≠ bq ∧ pv.ownBlock ≠ some (PB j) ∧ ∃ cs : Array Value, w.heap[PB j]? = some (.cells cs 55 (0, 0)) ∧ cs.size = PC j * 35 ∧ 1024 ≤ PC j
  inj : ∀ i j, i < np → j < np → PB i = PB j → i = j
  cnt : n = np * 1024 ∧ n ≤ 65536
  old : ∀ i, i < n → w.rangeAt (PB (i / 1024)) (i % 1024 * 35) (ent Z (a i))

/-- every page but the last is full, the last has pl entries -/
structure Mid (B : Nat) (w0 w : World) (bq n : Nat) (Z : Nat → Int) (a : Nat → Nat) (gp cp q : Nat) (PB PC : Nat → Nat) (pgv : Value) (pl : Nat) (xs : List Value) : Prop where
  low : Below B w0 w
  bB : B ≤ bq ∧ B ≤ gp ∧ bq ≠ gp ∧ B ≤ w0.heap.size
  blkq : ∃ (cs : Array Value) (t : Nat), w.heap[bq]? = some (.cells cs t (0, 0)) ∧ cs[0]? = some (.slice (some ⟨gp, 0, none⟩) (q + 1) cp) ∧ cs[1]? = some (.int .i64 n)
  blkg : ∃ cs : Array Value, w.heap[gp]? = some (.cells cs 81 (0, 0)) ∧ cs.size = cp ∧ q + 1 ≤ cp ∧ cp ≤ maxLen ∧ cs[q]? = some pgv ∧ ∀ j, j < q → cs[j]? = some (.slice (some ⟨PB j, 0, none⟩) 1024 (PC j))
  full : ∀ j, j < q → B ≤ PB j ∧ PB j ≠ bq ∧ PB j ≠ gp ∧ pgv.ownBlock ≠ some (PB j) ∧ ∃ cs : Array Value, w.heap[PB j]? = some (.cells cs 55 (0, 0)) ∧ cs.size = PC j * 35 ∧ 1024 ≤ PC j
  inj : ∀ i j, i < q → j < q → PB i = PB j → i = j
  last : w.ownsRow B 55 35 pgv pl xs
  far : pgv.ownBlock ≠ some bq ∧ pgv.ownBlock ≠ some gp
  cnt : n = q * 1024 + pl ∧ pl ≤ 1024 ∧ n ≤ 65536
  old : ∀ i, i < q * 1024 → w.rangeAt (PB (i / 1024)) (i % 1024 * 35) (ent Z (a i))
  new : ∀ i, i < pl → ∀ (j : Nat) (v : Value), (ent Z (a (q * 1024 + i)))[j]? = some v → xs[i * 35 + j]? = some v

theorem range_of_block {w w' : World} {b o : Nat} {vs : List Value} (h : w.rangeAt b o vs) (hb : w'.heap[b]? = w.heap[b]?) : w'.rangeAt b o vs :=
  fun j v hv => (World.cell?_of_block (w := w) (a := ⟨b, o + j, none⟩) hb).trans (h j v hv)

theorem mid_pushed {B : Nat} {w0 w w' : World} {bq n : Nat} {Z : Nat → Int} {a : Nat → Nat} {gp cp q : Nat} {PB PC : Nat → Nat} {pgv : Value} {pl : Nat} {xs : List Value} (id : Nat)
    (m : Mid B w0 w bq n Z a gp cp q PB PC pgv pl xs) (hl : pl < 1024) (hn : n < 65536) (h : Pushed w w' B bq gp q n pl pgv xs (ent Z id)) :
    ∃ v, Mid B w0 w' bq (n + 1) Z (fun i => if i = n then id else a i) gp cp q PB PC v (pl + 1) (xs ++ ent Z id) := by
  obtain ⟨g, cap, w1, ho, hg, hat, hlt, rfl⟩ := h
  obtain ⟨cq, tq, hq, hq0, hq1⟩ := m.blkq
  obtain ⟨cg, hgg, hgs, hgc, hgm, hgq, hgj⟩ := m.blkg
  have lq := lt_of_block hq
  have lg := lt_of_block hgg
  have hbg := m.bB.2.2.1
  have hBa : Below w.heap.size w (w.drew.alloc (.cells (ent Z id).toArray 55)) := ((Below.refl _ _).drew).alloc (Nat.le_refl _) _
  have sz : (w.drew.alloc (.cells (ent Z id).toArray 55)).heap.size = w.heap.size + 1 := by show (w.alloc _).heap.size = _; simp
  have blk : ∀ b, b < w.heap.size → some b ≠ pgv.ownBlock → w1.heap[b]? = w.heap[b]? := fun b hb hne => (hg.block b (by rw [sz]; omega) hne).trans (hBa.block b hb)
  have gq : g ≠ bq := by
    rintro rfl
    rcases hat with e | e
    · exact m.far.1 e
    · omega
  have ggp : g ≠ gp := by
    rintro rfl
    rcases hat with e | e
    · exact m.far.2 e
    · omega
  have gpb : ∀ j, j < q → g ≠ PB j := by
    rintro j hj rfl
    obtain ⟨_, _, _, h4, cs, h5, _⟩ := m.full j hj
    rcases hat with e | e
    · exact h4 e
    · have := lt_of_block h5; omega
  obtain ⟨hBg, cur, hcur, hc1, hc2, hc3, hc4⟩ := owns_open ho
  have hq' : w1.heap[bq]? = some (.cells cq tq (0, 0)) := (blk bq lq (Ne.symm m.far.1)).trans hq
  have hg' : w1.heap[gp]? = some (.cells cg 81 (0, 0)) := (blk gp lg (Ne.symm m.far.2)).trans hgg
  have oth : ∀ b, b ≠ bq → b ≠ gp → ((w1.setCell ⟨gp, q, none⟩ (.slice (some ⟨g, 0, none⟩) (pl + 1) cap)).setCell ⟨bq, 1, none⟩ (.int .i64 ((n : Int) + 1))).heap[b]? = w1.heap[b]? := fun b h1 h2 =>
    (heap_setCell_other _ ⟨bq, 1, none⟩ b _ h1).trans (heap_setCell_other _ ⟨gp, q, none⟩ b _ h2)
  have hpb : ∀ j, j < q → ((w1.setCell ⟨gp, q, none⟩ (.slice (some ⟨g, 0, none⟩) (pl + 1) cap)).setCell ⟨bq, 1, none⟩ (.int .i64 ((n : Int) + 1))).heap[PB j]? = w.heap[PB j]? := fun j hj => by
    obtain ⟨_, h2, h3, h4, cs, h5, _⟩ := m.full j hj
    exact (oth _ h2 h3).trans (blk _ (lt_of_block h5) (Ne.symm h4))
  have low1 : Below B w w1 := ⟨hg.os, hg.tape, hg.output, by have := hg.size; rw [sz] at this; omega, fun k hk => by
    have hkk : k < w.heap.size := by have := m.bB.1; omega
    refine blk k hkk (fun e => ?_)
    have := (m.last.lt k e.symm).1
    omega⟩
  have hcn := m.cnt
  refine ⟨.slice (some ⟨g, 0, none⟩) (pl + 1) cap, ⟨((m.low.trans low1).setCell m.bB.2.1 _).setCell m.bB.1 _, m.bB, ?_, ?_, ?_, m.inj, ?_, ?_, ?_, ?_, ?_⟩⟩
  · refine ⟨cq.setIfInBounds 1 (.int .i64 ((n : Int) + 1)), tq, ?_, ?_, ?_⟩
    · refine heap_setCell_same _ bq 1 cq tq _ ?_
      exact (heap_setCell_other _ ⟨gp, q, none⟩ bq _ hbg).trans hq'
    · rw [Array.getElem?_setIfInBounds_ne (by omega)]; exact hq0
    · rw [Array.getElem?_setIfInBounds_self_of_lt (by exact (Array.getElem?_eq_some_iff.1 hq1).1)]; simp
  · refine ⟨cg.setIfInBounds q (.slice (some ⟨g, 0, none⟩) (pl + 1) cap), ?_, by simpa using hgs, hgc, hgm, ?_, fun j hj => ?_⟩
    · exact (heap_setCell_other _ ⟨bq, 1, none⟩ gp _ (Ne.symm hbg)).trans (heap_setCell_same w1 gp q cg 81 _ hg')
    · exact Array.getElem?_setIfInBounds_self_of_lt (Array.getElem?_eq_some_iff.1 hgq).1
    · rw [Array.getElem?_setIfInBounds_ne (by omega)]; exact hgj j hj
  · intro j hj
    obtain ⟨h1, h2, h3, h4, cs, h5, h6⟩ := m.full j hj
    exact ⟨h1, h2, h3, by simpa [Value.ownBlock] using gpb j hj, cs, (hpb j hj).trans h5, h6⟩
  · exact owns_of_block ho (oth g gq ggp)
  · exact ⟨by simpa [Value.ownBlock] using gq, by simpa [Value.ownBlock] using ggp⟩
  · omega
  · intro i hi
    rw [if_neg (by omega)]
    exact range_of_block (m.old i hi) (hpb _ (by omega))
  · intro i hi j v hv
    have hj := ent_lt hv
    have hlen : xs.length = pl * 35 := m.last.1
    by_cases e : i = pl
    · subst e
      rw [if_pos (by omega)] at hv
      rw [List.getElem?_append_right (by omega)]
      rw [show i * 35 + j - xs.length = j by omega]
      exact hv
    · rw [if_neg (by omega)] at hv
      rw [List.getElem?_append_left (by omega)]
      exact m.new i (by omega) j v hv

theorem cell_row {w : World} {g i : Nat} {cs : Array Value} {t : Nat} (h : w.heap[g]? = some (.cells cs t (0, 0))) : w.cell? ⟨g, i, none⟩ = cs[i]? := cell_of_row w g i cs t (0, 0) h
theorem there_row {w : World} {g o k : Nat} {cs : Array Value} {t : Nat} (h : w.heap[g]? = some (.cells cs t (0, 0))) (hs : o + k ≤ cs.size) : w.there g o k := fun j hj => by
  refine ⟨?_, frozen_of_row w g (o + j) cs t h⟩
  rw [cell_row h, Array.getElem?_eq_getElem (by omega)]
  rfl

/-- the pages as one map -/
def pgB (q g : Nat) (PB : Nat → Nat) : Nat → Nat := fun j => if j = q then g else PB j

theorem mid_qs {B : Nat} {w0 w : World} {bq n : Nat} {Z : Nat → Int} {a : Nat → Nat} {gp cp q : Nat} {PB PC : Nat → Nat} {g pl cap : Nat} {xs : List Value}
    (m : Mid B w0 w bq n Z a gp cp q PB PC (.slice (some ⟨g, 0, none⟩) pl cap) pl xs) : QS w w bq gp (q + 1) cp n (pgB q g PB) (pgB q pl (fun _ => 1024)) (pgB q cap PC) Z a := by
  obtain ⟨cq, tq, hq, hq0, hq1⟩ := m.blkq
  obtain ⟨cg, hgg, hgs, hgc, hgm, hgq, hgj⟩ := m.blkg
  obtain ⟨hBg, cur, hcur, hc1, hc2, hc3, hc4⟩ := owns_open m.last
  have hcn := m.cnt
  have f1 : g ≠ bq := by simpa [Value.ownBlock] using m.far.1
  have f2 : g ≠ gp := by simpa [Value.ownBlock] using m.far.2
  have f3 : ∀ j, j < q → g ≠ PB j := fun j hj => by simpa [Value.ownBlock] using (m.full j hj).2.2.2.1
  refine ⟨⟨⟨?_, ?_⟩, ?_, ?_, ?_, ⟨lt_of_block hq, lt_of_block hgg, m.bB.2.2.1, hcn.2.2⟩, ?_⟩, ?_, Kept.refl _ _ _⟩
  · rw [cell_row hq]; exact hq0
  · rw [cell_row hq]; exact hq1
  · intro j hj
    rw [cell_row hgg]
    by_cases e : j = q
    · subst e; simp only [pgB, if_true]; exact hgq
    · simp only [pgB, if_neg e]; exact hgj j (by omega)
  · intro j hj
    by_cases e : j = q
    · subst e; simp only [pgB, if_true]; exact ⟨lt_of_block hcur, f1, f2⟩
    · simp only [pgB, if_neg e]
      obtain ⟨_, h2, h3, _, cs, h5, _⟩ := m.full j (by omega)
      exact ⟨lt_of_block h5, h2, h3⟩
  · intro i j hi hj
    by_cases e : i = q <;> by_cases e' : j = q
    · intro _; omega
    · simp only [pgB, if_pos e, if_neg e']; intro h; exact absurd h (f3 j (by omega))
    · simp only [pgB, if_neg e, if_pos e']; intro h; exact absurd h.symm (f3 i (by omega))
    · simp only [pgB, if_neg e, if_neg e']; exact m.inj i j (by omega) (by omega)
  · intro i hi
    by_cases e : i / 1024 = q
    · simp only [pgB, if_pos e]; omega
    · simp only [pgB, if_neg e]; omega
  · intro i hi
    by_cases e : i / 1024 = q
    · simp only [pgB, if_pos e]
      have hr : i % 1024 < pl := by omega
      refine ⟨fun j v hv => ?_, there_row hcur (by omega)⟩
      have hj := ent_lt hv
      rw [cell_row hcur]
      have h1 := m.new (i % 1024) hr j v (by rw [show q * 1024 + i % 1024 = i by omega]; exact hv)
      rw [take_get hc4 (by omega)] at h1
      simpa using h1
    · simp only [pgB, if_neg e]
      obtain ⟨_, _, _, _, cs, h5, h6, h7⟩ := m.full (i / 1024) (by omega)
      exact ⟨m.old i (by omega), there_row h5 (by omega)⟩

theorem qs_mid {B : Nat} {w0 w w' : World} {bq n : Nat} {Z : Nat → Int} {a a' : Nat → Nat} {gp cp q : Nat} {PB PC : Nat → Nat} {g pl cap : Nat} {xs : List Value}
    (m : Mid B w0 w bq n Z a gp cp q PB PC (.slice (some ⟨g, 0, none⟩) pl cap) pl xs) {PL' PC' : Nat → Nat} (k : QS w w' bq gp (q + 1) cp n (pgB q g PB) PL' PC' Z a') :
    ∃ xs', Mid B w0 w' bq n Z a' gp cp q PB PC (.slice (some ⟨g, 0, none⟩) pl cap) pl xs' := by
  obtain ⟨cq, tq, hq, hq0, hq1⟩ := m.blkq
  obtain ⟨cg, hgg, hgs, hgc, hgm, hgq, hgj⟩ := m.blkg
  obtain ⟨hBg, cur, hcur, hc1, hc2, hc3, hc4⟩ := owns_open m.last
  have hcn := m.cnt
  have f1 : g ≠ bq := by simpa [Value.ownBlock] using m.far.1
  have f2 : g ≠ gp := by simpa [Value.ownBlock] using m.far.2
  have f3 : ∀ j, j < q → g ≠ PB j := fun j hj => by simpa [Value.ownBlock] using (m.full j hj).2.2.2.1
  obtain ⟨_, hE, hK⟩ := k
  have far : ∀ b, b < w.heap.size → b ≠ g → (∀ j, j < q → b ≠ PB j) → w'.heap[b]? = w.heap[b]? := fun b hb h1 h2 => hK.2.2 b hb (fun j hj => by
    by_cases e : j = q
    · simp only [pgB, if_pos e]; exact h1
    · simp only [pgB, if_neg e]; exact h2 j (by omega))
  obtain ⟨cur', hcur', hs'⟩ := hK.1.2.2.2 g 55 cur hcur
  refine ⟨cur'.toList.take (pl * 35), ⟨m.low.trans (hK.below ?_ ?_), m.bB, ?_, ?_, ?_, m.inj, ?_, m.far, m.cnt, ?_, ?_⟩⟩
  · intro j hj
    by_cases e : j = q
    · simp only [pgB, if_pos e]; exact hBg
    · simp only [pgB, if_neg e]; exact (m.full j (by omega)).1
  · have := m.bB.1; have := lt_of_block hq; omega
  · exact ⟨cq, tq, (far bq (lt_of_block hq) (Ne.symm f1) (fun j hj => Ne.symm (m.full j hj).2.1)).trans hq, hq0, hq1⟩
  · exact ⟨cg, (far gp (lt_of_block hgg) (Ne.symm f2) (fun j hj => Ne.symm (m.full j hj).2.2.1)).trans hgg, hgs, hgc, hgm, hgq, hgj⟩
  · intro j hj
    obtain ⟨h1, h2, h3, h4, cs, h5, h6, h7⟩ := m.full j hj
    obtain ⟨cs', h8, h9⟩ := hK.1.2.2.2 (PB j) 55 cs h5
    exact ⟨h1, h2, h3, h4, cs', h8, by omega, h7⟩
  · refine ⟨?_, .inr ⟨g, cap, cur', rfl, hBg, hcur', hc1, hc2, by omega, rfl⟩⟩
    rw [List.length_take, Array.length_toList]
    have : pl * 35 ≤ cap * 35 := Nat.mul_le_mul_right _ hc1
    omega
  · intro i hi
    have h1 := (hE i (by omega)).1
    simp only [pgB, if_neg (show ¬ i / 1024 = q by omega)] at h1
    exact h1
  · intro i hi j v hv
    have hj := ent_lt hv
    have h1 := (hE (q * 1024 + i) (by omega)).1 j v hv
    simp only [pgB, if_pos (show (q * 1024 + i) / 1024 = q by omega)] at h1
    rw [show (q * 1024 + i) % 1024 = i by omega, cell_row hcur'] at h1
    rw [take_get rfl (by omega)]
    simpa using h1

end Go.Proofs.Qxb6614053a
