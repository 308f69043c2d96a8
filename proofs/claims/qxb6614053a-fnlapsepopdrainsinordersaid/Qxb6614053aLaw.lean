import Derived.Test.Qxb6614053aLawB
namespace Go.Proofs.Qxb6614053a
open Go.ChangeShapes Go.WideShapes Go.ChangeAt Go.RowKit

theorem info4 : (Try.prog.info? 4).map (fun i => (i.zero, i.size, i.bytes)) = some (some (.bool false), 1, 1) := by kernel_rfl
theorem made_false (n i : Nat) (h : i < n) : (madeCells (Value.bool false).cells (n * 1)).toList[i]? = some (.bool false) := by
  simp [madeCells, Value.cells, h, Nat.mod_one]

theorem th27 (x : World) (b : Nat) (kl : List Value) (hl : kl.length = 32) (hb : b = x.heap.size) : (x.alloc (.cells z27 27)).there b 0 kl.toArray.size := by
  rw [show kl.toArray.size = 32 from hl]; exact there_27 _ _ hb
theorem i27v (kl : List Value) (hl : kl.length = 32) : (Try.prog.info? 27).map (·.size) = some kl.toArray.size := by
  rw [show kl.toArray.size = 32 from hl]; exact i27
theorem i27w (kl : List Value) (hl : kl.length = 32) : (Try.prog.info? 27).map (·.size) = some kl.length := by
  rw [hl]; exact i27
theorem rng27 (x : World) (b : Nat) (kl : List Value) (hl : kl.length = 32) (hb : b = x.heap.size) : ((x.alloc (.cells z27 27)).setCells b 0 kl).rangeAt b 0 kl := World.rangeAt_setCells_same _ _ _ _ (by rw [hl]; exact there_27 _ _ hb)
theorem inv_step' {w wr w1 w2 : World} {bq u n m id : Nat} {Z : Nat → Int} {a : Nat → Nat} {kl : List Value} (e : a 0 = id) (h : Inv2 w wr bq u n (m + 1) Z a) (q : ∃ a', P bq u w1 bq m Z a' ∧ Same (swp a 0 m) a' m ∧ Heap Z a' m ∧ Keep bq u wr w1)
    (hb : Below ((w1.alloc (.cells z27 27)).setCells w1.heap.size 0 kl).heap.size ((w1.alloc (.cells z27 27)).setCells w1.heap.size 0 kl) w2) :
    (w2.cell? ⟨u, id, none⟩ = some (.bool false) ∧ w2.frozen? ⟨u, id, none⟩ = false) ∧ ∃ a', Inv2 w (w2.setCell ⟨u, id, none⟩ (.bool true)) bq u n m Z a' ∧ ∀ i, i < m → Z id ≤ Z (a' i) := by
  have hby : Below w1.heap.size w1 ((w1.alloc (.cells z27 27)).setCells w1.heap.size 0 kl) := below_setCells (Nat.le_refl _) _ _ _ ((Below.refl _ _).alloc (Nat.le_refl _) _)
  have := inv_step h q (hby.trans (hb.mono hby.size))
  rw [e] at this
  exact this

theorem law_long (a0 : Option Addr) (n cap : Nat) (w : World) (hm : n ≤ maxLen) (hl : 65536 < n) :
    Calls Try.prog 3 #[.slice a0 n cap] w fun e w' => e = .returned (.bool true) ∧ w' = w := by
  have HB : Hid (Calls Try.prog 5 #[.slice a0 n cap] w fun e w' => e = .returned (.bool (decide (n ≤ 1048576))) ∧ w' = w) := bytes_any a0 n cap w hm
  have h1 : (65536 : Int) < (n : Int) := by omega
  clear hm
  by_cases h : n ≤ 1048576
  · rw [show decide (n ≤ 1048576) = true by simpa using h] at HB
    clear h hl
    go_enter Try.func3, Try.ntmps3
    go_wp2_with (go_at_call 5; refine HB.out.mono ?_; rintro e w1 ⟨rfl, rfl⟩)
    go_ret
    exact ⟨rfl, rfl⟩
  · rw [show decide (n ≤ 1048576) = false by simpa using h] at HB
    clear h hl
    go_enter Try.func3, Try.ntmps3
    go_wp2_with (go_at_call 5; refine HB.out.mono ?_; rintro e w1 ⟨rfl, rfl⟩)
    go_ret
    exact ⟨rfl, rfl⟩

set_option linter.unusedSimpArgs false in
set_option maxHeartbeats 3000000 in
set_option maxRecDepth 100000 in
theorem law_main (a0 : Option Addr) (n cap : Nat) (Z : Nat → Int) (w : World) (hn : n ≤ 65536) (hc : ∀ k, k < n → ∃ x, a0 = some x ∧ w.cell? (x.add k) = some (.int .i64 (Z k))) (hz : ∀ k, k < n → -9223372036854775808 ≤ Z k ∧ Z k ≤ 9223372036854775807) :
    Calls Try.prog 3 #[.slice a0 n cap] w fun e w' => e = .returned (.bool true) ∧ Below w.heap.size w w' := by
  have HB : Hid (Calls Try.prog 5 #[.slice a0 n cap] w fun e w' => e = .returned (.bool true) ∧ w' = w) := by
    have := bytes_any a0 n cap w (by unfold maxLen; omega)
    rw [show decide (n ≤ 1048576) = true by simp; omega] at this
    exact this
  obtain ⟨bq, hbq⟩ : ∃ b, w.heap.size = b := ⟨_, rfl⟩
  have HN : Hid (Calls Try.prog 6 #[] w fun e w' => e = .returned (.pointer (some ⟨bq, 0, none⟩)) ∧ Q bq w w' bq 0 Z (fun _ => 0)) := by
    refine (new_any w).mono ?_
    rintro e w' ⟨rfl, rfl⟩
    subst hbq
    exact ⟨rfl, new_q w Z _⟩
  have HC : Hid (∀ k, k < n → ∃ x, a0 = some x ∧ w.cell? (x.add k) = some (.int .i64 (Z k))) := hc
  have HZ : Hid (∀ k, k < n → -9223372036854775808 ≤ Z k ∧ Z k ≤ 9223372036854775807) := hz
  have HBQ : Hid (w.heap.size = bq) := hbq
  clear hc hz
  have n1 : (n : Int) ≤ 65536 := by omega
  rw [hbq]
  clear hbq
  go_enter Try.func3, Try.ntmps3
  go_wp2_with (first
    | (go_at_call 5; refine HB.out.mono ?_; rintro e w1 ⟨rfl, hw⟩; obtain rfl := hw.symm)
    | (go_at_call 6; refine HN.out.mono ?_; rintro e w1 ⟨rfl, q1⟩; have HQ0 : Hid (Q bq w w1 bq 0 Z (fun _ => 0)) := q1; clear q1))
  go_loopw [5] (fun i wr => ∃ (k : Nat) (a : Nat → Nat), i = .int .i64 (k : Nat) ∧ k ≤ n ∧ Q bq w wr bq k Z a ∧ Heap Z a k ∧ Ids a k k) (fun i _ => n - (intOf i).toNat)
  case atStart => exact ⟨0, _, rfl, Nat.zero_le _, HQ0.out, fun i _ h => by omega, ⟨fun i h => by omega, fun i j h => by omega⟩⟩
  case round =>
    obtain ⟨k, a, rfl, hk, hq, hh, hid⟩ := hrel
    clear HQ0
    by_cases hkn : k < n
    · obtain ⟨x, rfl, hx⟩ := HC.out k hkn
      obtain ⟨z0, z1⟩ := HZ.out k hkn
      have lx : (x.add k).block < bq := by rw [← HBQ.out]; exact World.block_lt_of_cell? w _ hx
      have HK : Hid (∀ y, Calls Try.prog 8 #[.int .i64 k] y fun e w' => e = .returned (.agg (keyCells (k : Int))) ∧ Below y.heap.size y w') := fun y => keyOf_any (k : Int) y (by omega) (by omega)
      have HP : Hid (∀ y, Q bq w y bq k Z a → Calls Try.prog 7 #[.pointer (some ⟨bq, 0, none⟩), .agg (keyCells (k : Int)), .int .i64 (Z k)] y fun e w' => e = .returned (.tuple #[]) ∧ ∃ a', Q bq w w' bq (k + 1) Z a' ∧ Same (fun i => if i = k then k else a i) a' (k + 1) ∧ Heap Z a' (k + 1)) :=
        fun y hy => zzpush_any k (Z k) rfl hy (by omega) hh z0 z1
      have hcw : wr.cell? (x.add k) = some (.int .i64 (Z k)) := (hq.low.cell lx).trans hx
      have HQ : Hid (Q bq w wr bq k Z a) := hq
      have HX : Hid (w.cell? (x.add k) = some (.int .i64 (Z k)) ∧ (x.add k).block < bq) := ⟨hx, lx⟩
      have HI : Hid (Ids a k k) := hid
      have k1 : (k : Int) < (n : Int) := by omega
      clear hq hh hx lx hid z0 z1
      go_wp2
      go_region_held (fun y => y.cell? (x.add k) = some (.int .i64 (Z k))) (go_keep)
        (first
          | (go_at_call 8; refine (HK.out _).mono ?_; rintro e w1 ⟨rfl, hb1⟩; have HQ1 : Hid (Q bq w w1 bq k Z a) := HQ.out.kept (((Below.refl _ _).drew).trans hb1); have hc1 : w1.cell? (x.add k) = some (.int .i64 (Z k)) := (HQ1.out.low.cell HX.out.2).trans HX.out.1; clear hb1)
          | (go_at_call 7; refine (HP.out _ HQ1.out).mono ?_; rintro e w2 ⟨rfl, q2⟩; have HQ2 : Hid (∃ a', Q bq w w2 bq (k + 1) Z a' ∧ Same (fun i => if i = k then k else a i) a' (k + 1) ∧ Heap Z a' (k + 1)) := q2; have hc2 : w2.cell? (x.add k) = some (.int .i64 (Z k)) := (by obtain ⟨_, hq2, _⟩ := HQ2.out; exact (hq2.low.cell HX.out.2).trans HX.out.1); clear q2))
      go_wp2
      go_roundw
      case rel =>
        obtain ⟨a', hq', hs', hh'⟩ := HQ2.out
        exact ⟨k + 1, a', by go_num, by omega, hq', hh', ids_push HI.out hs'⟩
      case measure => simp [intOf]; omega
    · have e : n = k := by omega
      subst e
      obtain ⟨i4, hi, hz0, hz1, hz2⟩ := info_parts info4
      have HL : Hid (Calls Try.prog 9 #[.pointer (some ⟨bq, 0, none⟩)] wr fun e w' => e = .returned (.int .i64 n) ∧ w' = wr) := zzlen_any bq _ wr hq.len
      have HP : Hid (0 < n → P bq wr.heap.size wr bq n Z a) := fun h0 => q_pop hq h0
      have HLow : Hid (Below bq w wr) := hq.low
      have HH : Hid (Heap Z a n ∧ Ids a n n) := ⟨hh, hid⟩
      clear hq hh hid
      go_wp2_with (first
        | (go_at_call 9; refine HL.out.mono ?_; rintro e w1 ⟨rfl, hw⟩; obtain rfl := hw.symm)
        | (at_make; refine wpList_make_full _ rfl _ _ 30 rfl 0 4 i4 (.bool false) 1 Try.underlying30 hi hz0 hz1 .i64 .i64 _ _ n rfl rfl rfl rfl (by rw [hz2]; omega) (by unfold maxLen; omega) (Nat.zero_le _) ?_; intro wu hown hgrow))
      obtain ⟨u, hu⟩ : ∃ u, wr.heap.size = u := ⟨_, rfl⟩
      rw [hu] at hown HP ⊢
      have hBu : Below u wr wu := by rw [← hu]; exact ⟨hgrow.os, hgrow.tape, hgrow.output, hgrow.size, fun k hk => hgrow.block k hk (by simp)⟩
      have hBw : Below bq w wu := HLow.out.trans (hBu.mono (by rw [← hu]; have := HLow.out.size; rw [HBQ.out] at this; exact this))
      have HI : Hid (0 < n → Inv2 w wu bq u n n Z a) := fun h0 => by
        obtain ⟨_, cur, hcur, _, _, hcs, htk⟩ := owns_open hown
        refine ⟨(HP.out h0).kept (by rw [hu]; exact hBu), HH.out.1, HH.out.2, hBw, cur, hcur, by omega, fun i hi => ?_⟩
        have h1 := HH.out.2.1 i hi
        have h2 := take_get htk (i := a i) (by omega)
        rw [made_false n (a i) h1] at h2
        simpa using h2.symm
      have HBw : Hid (Below bq w wu) := hBw
      clear hBu hBw hown hgrow HP HH HL HLow hu hi hz0 hz1 hz2
      go_loopw [7, 8] (fun p j wr2 => ∃ (jj m : Nat) (pp : Int) (a2 : Nat → Nat), p = .int .i64 pp ∧ j = .int .i64 (jj : Nat) ∧ jj + m = n ∧ Below bq w wr2 ∧ (0 < n → Inv2 w wr2 bq u n m Z a2) ∧ (0 < jj → ∀ i, i < m → pp ≤ Z (a2 i))) (fun _ j _ => n - (intOf j).toNat)
      case atStart => exact ⟨0, n, 0, a, rfl, rfl, by omega, HBw.out, HI.out, fun h => by omega⟩
      case round =>
        obtain ⟨jj, m, pp, a2, rfl, rfl, hjm, hlow, hinv, hord⟩ := hrel
        clear HI HBw HB HN
        by_cases hj : jj < n
        · obtain ⟨m', rfl⟩ : ∃ m', m = m' + 1 := ⟨m - 1, by omega⟩
          have inv := hinv (by omega)
          obtain ⟨id, hid⟩ : ∃ id, a2 0 = id := ⟨_, rfl⟩
          have idn : id < n := by rw [← hid]; exact inv.2.2.1.1 0 (by omega)
          obtain ⟨x, rfl, hx⟩ := HC.out id idn
          obtain ⟨z0, z1⟩ := HZ.out id idn
          have lx : (x.add id).block < bq := by rw [← HBQ.out]; exact World.block_lt_of_cell? w _ hx
          have HPo : Hid (Calls Try.prog 10 #[.pointer (some ⟨bq, 0, none⟩)] wr fun e w' => e = .returned (.tuple #[.agg (keyCells (id : Nat)), .int .i64 (Z id)]) ∧ ∃ a', P bq u w' bq m' Z a' ∧ Same (swp a2 0 m') a' m' ∧ Heap Z a' m' ∧ Keep bq u wr w') := by
            have := zzpop_any inv.1 inv.2.1 (by rw [hid]; exact z0) (by rw [hid]; exact z1)
            rw [hid] at this
            exact this
          have HID : Hid (∀ y, Calls Try.prog 11 #[.agg (keyCells (id : Int))] y fun e w' => e = .returned (.tuple #[.int .i64 (id : Int), .bool true]) ∧ Below y.heap.size y w') := fun y => idxOf_any (id : Int) y (by omega) (by omega)
          obtain ⟨kl, hkl⟩ : ∃ kl : List Value, keyCells (id : Int) = kl.toArray := ⟨(keyCells (id : Int)).toList, rfl⟩
          have kn : kl.length = 32 := by have h : (keyCells (id : Int)).size = 32 := rfl; rw [hkl] at h; exact h
          have ko : kl.toArray.all (·.oneCell') = true := by rw [← hkl]; exact key_one _
          rw [hkl] at HPo HID
          clear hkl
          have HV : Hid (Inv2 w wr bq u n (m' + 1) Z a2 ∧ a2 0 = id) := ⟨inv, hid⟩
          have HX : Hid (w.cell? (x.add id) = some (.int .i64 (Z id)) ∧ (x.add id).block < bq) := ⟨hx, lx⟩
          have d1 : (jj : Int) < (n : Int) := by omega
          have d2 : (id : Int) < (n : Int) := by omega
          have d3 : (n : Int) - 1 - (jj : Int) = (m' : Int) := by omega
          have d4 : (1 : Int) ≤ (n : Int) := by omega
          have d5 : jj = 0 ∨ (0 < (jj : Int) ∧ pp ≤ Z id) := by
            by_cases h0 : jj = 0
            · exact .inl h0
            · exact .inr ⟨by omega, by have := hord (by omega) 0 (by omega); rw [hid] at this; exact this⟩
          have HJ : Hid (jj + (m' + 1) = n) := hjm
          clear hinv hord inv hid hx lx z0 z1 hlow hjm hj idn
          rcases d5 with rfl | ⟨d6, d7⟩
          · go_wp2_with (first
              | (go_at_call 10; refine HPo.out.mono ?_; rintro e w1 ⟨rfl, q1⟩; have HQ1 : Hid (∃ a', P bq u w1 bq m' Z a' ∧ Same (swp a2 0 m') a' m' ∧ Heap Z a' m' ∧ Keep bq u wr w1) := q1; clear q1)
              | (go_at_call 11; refine (HID.out _).mono ?_; rintro e w2 ⟨rfl, hb2⟩; have ⟨⟨cu, fu⟩, q3⟩ := inv_step' HV.out.2 HV.out.1 HQ1.out hb2; have HQ3 : Hid (∃ a', Inv2 w (w2.setCell ⟨u, id, none⟩ (.bool true)) bq u n m' Z a' ∧ ∀ i, i < m' → Z id ≤ Z (a' i)) := q3; clear q3 hb2;
                 have cx : (w2.setCell ⟨u, id, none⟩ (.bool true)).cell? (x.add id) = some (.int .i64 (Z id)) := (by obtain ⟨_, hi3, _⟩ := HQ3.out; exact (hi3.2.2.2.1.cell HX.out.2).trans HX.out.1); have HL9 : Hid (Calls Try.prog 9 #[.pointer (some ⟨bq, 0, none⟩)] (w2.setCell ⟨u, id, none⟩ (.bool true)) fun e w' => e = .returned (.int .i64 m') ∧ w' = w2.setCell ⟨u, id, none⟩ (.bool true)) := (by obtain ⟨_, hi3, _⟩ := HQ3.out; exact zzlen_any bq _ _ hi3.1.len))
              | (go_at_call 9; refine HL9.out.mono ?_; rintro e w4 ⟨rfl, hw⟩; obtain rfl := hw)
              | (refine wpList_store_mid rfl 27 (.tmp 9) (.tmp 49) rfl w1.heap.size 0 kl.toArray rfl rfl (th27 _ _ kl kn rfl) (i27v kl kn) ko ?_)
              | (refine wpList_load_mid rfl 27 (.tmp 9) rfl w1.heap.size 0 rfl kl _ (rng27 _ _ kl kn rfl) Try.underlying27 rfl (i27w kl kn) ?_))
            go_roundw
            case rel =>
              obtain ⟨a', hi3, ho⟩ := HQ3.out
              exact ⟨1, m', Z id, a', rfl, rfl, by have := HJ.out; omega, hi3.2.2.2.1, fun _ => hi3, fun _ => ho⟩
            case measure => simp [intOf]; omega
          · go_wp2_with (first
              | (go_at_call 10; refine HPo.out.mono ?_; rintro e w1 ⟨rfl, q1⟩; have HQ1 : Hid (∃ a', P bq u w1 bq m' Z a' ∧ Same (swp a2 0 m') a' m' ∧ Heap Z a' m' ∧ Keep bq u wr w1) := q1; clear q1)
              | (go_at_call 11; refine (HID.out _).mono ?_; rintro e w2 ⟨rfl, hb2⟩; have ⟨⟨cu, fu⟩, q3⟩ := inv_step' HV.out.2 HV.out.1 HQ1.out hb2; have HQ3 : Hid (∃ a', Inv2 w (w2.setCell ⟨u, id, none⟩ (.bool true)) bq u n m' Z a' ∧ ∀ i, i < m' → Z id ≤ Z (a' i)) := q3; clear q3 hb2;
                 have cx : (w2.setCell ⟨u, id, none⟩ (.bool true)).cell? (x.add id) = some (.int .i64 (Z id)) := (by obtain ⟨_, hi3, _⟩ := HQ3.out; exact (hi3.2.2.2.1.cell HX.out.2).trans HX.out.1); have HL9 : Hid (Calls Try.prog 9 #[.pointer (some ⟨bq, 0, none⟩)] (w2.setCell ⟨u, id, none⟩ (.bool true)) fun e w' => e = .returned (.int .i64 m') ∧ w' = w2.setCell ⟨u, id, none⟩ (.bool true)) := (by obtain ⟨_, hi3, _⟩ := HQ3.out; exact zzlen_any bq _ _ hi3.1.len))
              | (go_at_call 9; refine HL9.out.mono ?_; rintro e w4 ⟨rfl, hw⟩; obtain rfl := hw)
              | (refine wpList_store_mid rfl 27 (.tmp 9) (.tmp 49) rfl w1.heap.size 0 kl.toArray rfl rfl (th27 _ _ kl kn rfl) (i27v kl kn) ko ?_)
              | (refine wpList_load_mid rfl 27 (.tmp 9) rfl w1.heap.size 0 rfl kl _ (rng27 _ _ kl kn rfl) Try.underlying27 rfl (i27w kl kn) ?_))
            go_roundw
            case rel =>
              obtain ⟨a', hi3, ho⟩ := HQ3.out
              exact ⟨jj + 1, m', Z id, a', rfl, by go_num, by have := HJ.out; omega, hi3.2.2.2.1, fun _ => hi3, fun _ => ho⟩
            case measure => simp [intOf]; omega
        · have e : n = jj := by omega
          subst e
          have HLow : Hid (Below bq w wr) := hlow
          clear hinv hord hlow
          go_wp2
          go_ret
          exact ⟨rfl, HLow.out⟩
end Go.Proofs.Qxb6614053a
