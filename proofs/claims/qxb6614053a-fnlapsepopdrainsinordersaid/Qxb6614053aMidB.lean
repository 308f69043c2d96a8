import Derived.Test.Qxb6614053aMid
namespace Go.Proofs.Qxb6614053a
open Go.ChangeShapes Go.WideShapes Go.ChangeAt Go.RowKit

/-- the last page has become full -/
theorem mid_pre {B : Nat} {w0 w : World} {bq n : Nat} {Z : Nat → Int} {a : Nat → Nat} {gp cp q : Nat} {PB PC : Nat → Nat} {g cap : Nat} {xs : List Value}
    (m : Mid B w0 w bq n Z a gp cp q PB PC (.slice (some ⟨g, 0, none⟩) 1024 cap) 1024 xs) : ∃ pgs, Pre B w0 w bq n Z a (.slice (some ⟨gp, 0, none⟩) (q + 1) cp) (q + 1) pgs (pgB q g PB) (pgB q cap PC) := by
  have hQ := mid_qs m
  obtain ⟨cq, tq, hq, hq0, hq1⟩ := m.blkq
  obtain ⟨cg, hgg, hgs, hgc, hgm, hgq, hgj⟩ := m.blkg
  obtain ⟨hBg, cur, hcur, hc1, hc2, hc3, hc4⟩ := owns_open m.last
  have hcn := m.cnt
  have f1 : g ≠ bq := by simpa [Value.ownBlock] using m.far.1
  have f2 : g ≠ gp := by simpa [Value.ownBlock] using m.far.2
  refine ⟨cg.toList.take ((q + 1) * 1), ⟨m.low, ⟨m.bB.1, m.bB.2.2.2⟩, ⟨cq, tq, hq, hq0, hq1⟩, ⟨?_, .inr ⟨gp, cp, cg, rfl, m.bB.2.1, hgg, hgc, hgm, by omega, rfl⟩⟩, ?_, ?_, ?_, ?_, ?_, ?_⟩⟩
  · rw [List.length_take, Array.length_toList]; omega
  · simpa [Value.ownBlock] using Ne.symm m.bB.2.2.1
  · intro j hj
    rw [take_get rfl (by omega)]
    by_cases e : j = q
    · subst e; simp only [pgB, if_true]; simpa using hgq
    · simp only [pgB, if_neg e]; simpa using hgj j (by omega)
  · intro j hj
    by_cases e : j = q
    · subst e; simp only [pgB, if_true]; exact ⟨hBg, f1, by simpa [Value.ownBlock] using Ne.symm f2, cur, hcur, hc3, hc1⟩
    · simp only [pgB, if_neg e]
      obtain ⟨h1, h2, h3, _, cs, h5⟩ := m.full j (by omega)
      exact ⟨h1, h2, by simpa [Value.ownBlock] using Ne.symm h3, cs, h5⟩
  · exact hQ.1.2.2.2.1
  · omega
  · intro i hi
    exact (hQ.2.1 i hi).1

theorem pre_paged {B : Nat} {w0 w W : World} {bq n : Nat} {Z : Nat → Int} {a : Nat → Nat} {pv : Value} {np : Nat} {pgs : List Value} {PB PC : Nat → Nat} {gp cp : Nat}
    (m : Pre B w0 w bq n Z a pv np pgs PB PC) (h : Paged w W B bq gp np cp pv pgs) : Mid B w0 W bq n Z a gp cp np PB PC (.slice none 0 0) 0 [] := by
  obtain ⟨cq, tq, hq, hq0, hq1⟩ := m.blkq
  obtain ⟨k1, w2, k2, ho, hg, hat, hlt, rfl⟩ := h
  have lq := lt_of_block hq
  have hcn := m.cnt
  have hpl : pgs.length = np := by have := m.own.1; omega
  have hne : bq ≠ gp := by
    rintro rfl
    rcases hat with e | e
    · exact m.pq e
    · omega
  have hb : Below w.heap.size w ((w.drewN k1).alloc (.cells #[.slice none 0 0] 81)) := (below_drewN (Below.refl _ _) k1).alloc (Nat.le_refl _) _
  have sz : ((w.drewN k1).alloc (.cells #[.slice none 0 0] 81)).heap.size = w.heap.size + 1 := by show (w.alloc _).heap.size = _; simp
  have blk : ∀ b, b < w.heap.size → some b ≠ pv.ownBlock → w2.heap[b]? = w.heap[b]? := fun b hb' hne => (hg.block b (by rw [sz]; omega) hne).trans (hb.block b hb')
  have low1 : Below B w w2 := ⟨hg.os, hg.tape, hg.output, by have := hg.size; rw [sz] at this; omega, fun k hk => by
    have hkk : k < w.heap.size := by have := m.bB.1; omega
    refine blk k hkk (fun e => ?_)
    have := (m.own.lt k e.symm).1
    omega⟩
  obtain ⟨hBg, cur, hcur, hc1, hc2, hc3, hc4⟩ := owns_open ho
  have gpb : ∀ j, j < np → PB j ≠ gp := by
    rintro j hj rfl
    obtain ⟨_, _, h3, cs, h5, _⟩ := m.full j hj
    rcases hat with e | e
    · exact h3 e
    · have := lt_of_block h5; omega
  have hpb : ∀ j, j < np → (w2.setCell ⟨bq, 0, none⟩ (.slice (some ⟨gp, 0, none⟩) (np + 1) cp)).heap[PB j]? = w.heap[PB j]? := fun j hj => by
    obtain ⟨_, h2, h3, cs, h5, _⟩ := m.full j hj
    exact (heap_setCell_other w2 ⟨bq, 0, none⟩ (PB j) _ h2).trans (blk _ (lt_of_block h5) (Ne.symm h3))
  refine ⟨below_drewN ((m.low.trans low1).setCell m.bB.1 _) k2, ⟨m.bB.1, hBg, hne, m.bB.2⟩, ?_, ?_, ?_, m.inj, ⟨rfl, .inl ⟨rfl, rfl⟩⟩, ?_, ?_, ?_, ?_⟩
  · refine ⟨cq.setIfInBounds 0 (.slice (some ⟨gp, 0, none⟩) (np + 1) cp), tq, ?_, ?_, ?_⟩
    · exact heap_setCell_same w2 bq 0 cq tq _ ((blk bq lq (Ne.symm m.pq)).trans hq)
    · exact Array.getElem?_setIfInBounds_self_of_lt (Array.getElem?_eq_some_iff.1 hq0).1
    · rw [Array.getElem?_setIfInBounds_ne (by omega)]; exact hq1
  · refine ⟨cur, (heap_setCell_other w2 ⟨bq, 0, none⟩ gp _ (Ne.symm hne)).trans hcur, by omega, hc1, hc2, ?_, fun j hj => ?_⟩
    · have h1 := take_get hc4 (i := np) (by omega)
      rw [List.getElem?_append_right (by omega), hpl] at h1
      simpa using h1.symm
    · have h1 := take_get hc4 (i := j) (by omega)
      rw [List.getElem?_append_left (by omega), m.pg j hj] at h1
      simpa using h1.symm
  · intro j hj
    obtain ⟨h1, h2, h3, cs, h5⟩ := m.full j hj
    exact ⟨h1, h2, gpb j hj, by simp [Value.ownBlock], cs, (hpb j hj).trans h5.1, h5.2⟩
  · simp [Value.ownBlock]
  · exact ⟨hcn.1.trans (Nat.add_zero (np * 1024)).symm, Nat.zero_le _, hcn.2⟩
  · intro i hi
    have hi2 : i < n := by rw [hcn.1]; exact hi
    have hi3 : i / 1024 < np := by omega
    have h1 : (w2.setCell ⟨bq, 0, none⟩ (.slice (some ⟨gp, 0, none⟩) (np + 1) cp)).rangeAt (PB (i / 1024)) (i % 1024 * 35) (ent Z (a i)) := range_of_block (m.old i hi2) (hpb _ hi3)
    exact h1
  · intro i hi; omega

/-- the queue in the pushing phase -/
def Q (B : Nat) (w0 w : World) (bq n : Nat) (Z : Nat → Int) (a : Nat → Nat) : Prop :=
  (n = 0 ∧ ∃ PB PC, Pre B w0 w bq 0 Z a (.slice none 0 0) 0 [] PB PC) ∨ (0 < n ∧ ∃ gp cp q PB PC g pl cap xs, 0 < pl ∧ Mid B w0 w bq n Z a gp cp q PB PC (.slice (some ⟨g, 0, none⟩) pl cap) pl xs)

theorem mid_form {B : Nat} {w0 w : World} {bq n : Nat} {Z : Nat → Int} {a : Nat → Nat} {gp cp q : Nat} {PB PC : Nat → Nat} {v : Value} {pl : Nat} {xs : List Value} (m : Mid B w0 w bq n Z a gp cp q PB PC v pl xs) (hp : 0 < pl) : Q B w0 w bq n Z a := by
  obtain ⟨g, cap, rfl, _⟩ := m.last.form hp
  exact .inr ⟨by have := m.cnt; omega, gp, cp, q, PB, PC, g, pl, cap, xs, hp, m⟩

theorem Q.kept {B : Nat} {w0 w w' : World} {bq n : Nat} {Z : Nat → Int} {a : Nat → Nat} (h : Q B w0 w bq n Z a) (hb : Below w.heap.size w w') : Q B w0 w' bq n Z a := by
  rcases h with ⟨h0, PB, PC, m⟩ | ⟨h0, gp, cp, q, PB, PC, g, pl, cap, xs, hp, m⟩
  · obtain ⟨cq, tq, hq, hq0, hq1⟩ := m.blkq
    have := lt_of_block hq
    exact .inl ⟨h0, PB, PC, ⟨m.low.trans (hb.mono (by have := m.bB.1; omega)), m.bB, ⟨cq, tq, (hb.block _ this).trans hq, hq0, hq1⟩, ⟨rfl, .inl ⟨rfl, rfl⟩⟩, m.pq, m.pg, fun j hj => by omega, m.inj, m.cnt, fun i hi => by omega⟩⟩
  · have hq := mid_qs m
    have k : Kept (q + 1) (pgB q g PB) w w' := Kept.of_below hb
    obtain ⟨xs', m'⟩ := qs_mid m ⟨k.geo hq.1, ents_below hq.1 hq.2.1 hb, k⟩
    exact mid_form m' hp

/-- lapseQueue.Push -/
theorem push_q {B : Nat} {w0 w : World} {bq n : Nat} {Z : Nat → Int} {a : Nat → Nat} (id : Nat) (h : Q B w0 w bq n Z a) (hn : n < 65536) :
    Calls Try.prog 55 #[.pointer (some ⟨bq, 0, none⟩), .iface 55 (.agg (ent Z id).toArray)] w fun e w' => e = .returned (.tuple #[]) ∧ Q B w0 w' bq (n + 1) Z (fun i => if i = n then id else a i) := by
  rcases h with ⟨h0, PB, PC, m⟩ | ⟨h0, gp, cp, q, PB, PC, g, pl, cap, xs, hp, m⟩
  · subst h0
    obtain ⟨cq, tq, hq, hq0, hq1⟩ := m.blkq
    have hBw : B ≤ w.heap.size := by have := lt_of_block hq; have := m.bB.1; omega
    refine (push_new0 B bq 0 id Z [] w (by omega) rfl m.own (by rw [cell_row hq]; exact hq0) (by rw [cell_row hq]; exact hq1) (frozen_of_row w bq 0 cq tq hq) (frozen_of_row w bq 1 cq tq hq) (lt_of_block hq) m.pq hBw).mono ?_
    rintro e w' ⟨rfl, gp, cp, W, hP, hPu⟩
    obtain ⟨v, m'⟩ := mid_pushed id (pre_paged m hP) (by omega) (by omega) hPu
    exact ⟨rfl, mid_form m' (by omega)⟩
  · obtain ⟨cq, tq, hq, hq0, hq1⟩ := m.blkq
    have hcn := m.cnt
    have hBw : B ≤ w.heap.size := by have := lt_of_block hq; have := m.bB.1; omega
    by_cases hf : pl = 1024
    · subst hf
      obtain ⟨pgs, p⟩ := mid_pre m
      refine (push_new1 B bq gp cp (q + 1) n id Z pgs w (by omega) p.cnt.1 p.own (by rw [cell_row hq]; exact hq0) (by rw [cell_row hq]; exact hq1) (frozen_of_row w bq 0 cq tq hq) (frozen_of_row w bq 1 cq tq hq) (lt_of_block hq) p.pq hBw).mono ?_
      rintro e w' ⟨rfl, gp', cp', W, hP, hPu⟩
      obtain ⟨v, m'⟩ := mid_pushed id (pre_paged p hP) (by omega) (by omega) hPu
      exact ⟨rfl, mid_form m' (by omega)⟩
    · obtain ⟨cg, hgg, hgs, hgc, hgm, hgq, hgj⟩ := m.blkg
      refine (push_old B bq gp (q + 1) cp q n pl id Z _ xs w (by omega) (by omega) rfl (by omega) (by omega) (by rw [cell_row hq]; exact hq0) (by rw [cell_row hq]; exact hq1) (frozen_of_row w bq 1 cq tq hq) (by rw [cell_row hgg]; exact hgq) (frozen_of_row w gp q cg 81 hgg) m.last (lt_of_block hq) (lt_of_block hgg) m.bB.2.2.1 m.far.1 m.far.2 hBw).mono ?_
      rintro e w' ⟨rfl, W, ⟨k, rfl⟩, hPu⟩
      have mW : Mid B w0 (w.drewN k) bq n Z a gp cp q PB PC (.slice (some ⟨g, 0, none⟩) pl cap) pl xs := ⟨below_drewN m.low k, m.bB, m.blkq, m.blkg, m.full, m.inj, m.last, m.far, m.cnt, m.old, m.new⟩
      obtain ⟨v, m'⟩ := mid_pushed id mW (by omega) (by omega) hPu
      exact ⟨rfl, mid_form m' (by omega)⟩
end Go.Proofs.Qxb6614053a
