import Derived.Test.YbulkbojsAtStart
namespace Go.Proofs.Ybulkbojs
open Go.RowKit
set_option linter.unusedVariables false

theorem pick_pos {c a b : Prop} [Decidable c] (h : if c then a else b) (hc : c) : a := by rwa [if_pos hc] at h
theorem pick_neg {c a b : Prop} [Decidable c] (h : if c then a else b) (hc : ¬ c) : b := by rwa [if_neg hc] at h
theorem tdiv_neg (P r : Nat) : Int.tdiv (-(P : Int)) (r : Int) = -((P / r : Nat) : Int) := by
  rw [Int.neg_tdiv]; rfl
theorem tmod_neg (P r : Nat) : Int.tmod (-(P : Int)) (r : Int) = -((P % r : Nat) : Int) := by
  rw [Int.neg_tmod]; rfl
theorem go_floor_up {p r : Int} (h : 0 ≤ p) : Int.tdiv p r = p / r := Int.tdiv_eq_ediv_of_nonneg h
theorem go_floor_even {p r : Int} (hr : 0 < r) (h : p < 0) (hm : Int.tmod p r = 0) : Int.tdiv p r = p / r := by
  obtain ⟨P, rfl⟩ : ∃ P : Nat, p = -(P : Int) := ⟨p.natAbs, by omega⟩
  obtain ⟨R, rfl⟩ : ∃ R : Nat, r = (R : Int) := ⟨r.toNat, by omega⟩
  rw [tmod_neg] at hm
  rw [tdiv_neg, neg_floor P R (by omega)]
  unfold ceilQ
  rw [if_pos (by omega)]
theorem go_floor_odd {p r : Int} (hr : 0 < r) (h : p < 0) (hm : Int.tmod p r ≠ 0) : Int.tdiv p r - 1 = p / r := by
  obtain ⟨P, rfl⟩ : ∃ P : Nat, p = -(P : Int) := ⟨p.natAbs, by omega⟩
  obtain ⟨R, rfl⟩ : ∃ R : Nat, r = (R : Int) := ⟨r.toNat, by omega⟩
  rw [tmod_neg] at hm
  rw [tdiv_neg, neg_floor P R (by omega)]
  unfold ceilQ
  rw [if_neg (by omega)]
  omega

theorem tdiv_near {p r : Int} (hr : 0 < r) : Int.tdiv p r = p / r ∨ Int.tdiv p r = p / r + 1 := by
  by_cases h : p < 0
  · by_cases hm : Int.tmod p r = 0
    · exact .inl (go_floor_even hr h hm)
    · exact .inr (by have := go_floor_odd hr h hm; omega)
  · exact .inl (go_floor_up (Int.not_lt.1 h))

set_option maxHeartbeats 1000000 in
set_option maxRecDepth 100000 in
theorem exact_walk (clock perf cpu start stamp ts : Int) (w : World) (hp : perf ≤ 9223372036854775807) (ha : -9223372036854775808 ≤ ts ∧ ts ≤ 9223372036854775807)
    (hb : -9223372036854775808 ≤ stamp ∧ stamp ≤ 9223372036854775807) (hs : -9223372036854775808 ≤ start ∧ start ≤ 9223372036854775807) :
    Calls Yba.prog 6 #[.agg #[.int .u32 clock, .int .i64 perf, .int .u32 cpu, .int .i64 start, .int .i64 stamp], .int .i64 ts] w fun e w' => e = .returned (.bool true) ∧ Below w.heap.size w w' := by
  go_enter Yba.func6, Yba.ntmps6
  go_wp2_with fail
  refine (hdr_is clock perf cpu start stamp _).mono ?_
  rintro e w1 ⟨rfl, kb⟩
  have KB : Hid (Below (w.alloc (.cells (argArr clock perf cpu start stamp) 75)).heap.size (w.alloc (.cells (argArr clock perf cpu start stamp) 75)) w1) := kb
  clear kb
  go_wp2_with (refine wpList_store_row rfl 37 (.tmp 5) (.tmp 14) rfl w1.heap.size (hdrArr clock perf cpu start stamp) rfl rfl 37 _ (heap_alloc_new _ _) (by rw [hdrArr_size, info37]) (by rw [hdrArr_size]; rfl) (hdrArr_one _ _ _ _ _) ?_;
               obtain ⟨W, hW, FR⟩ : ∃ W, _ = W ∧ Front w w1.heap.size clock perf cpu start stamp W := ⟨_, rfl, front_world w w1 clock perf cpu start stamp _ KB.out⟩;
               rw [hW]; clear hW; obtain ⟨c0, c1, c2, c3, c4⟩ := row_cells FR.row)
  refine (time_says W w1.heap.size clock perf cpu start stamp ts FR.hdr hp ha hb hs).mono ?_
  rintro e w2 ⟨t, ok, rfl, SY, k, rfl⟩
  have RW : Hid ((W.drewN k).heap[w.heap.size]? = some (.cells (argArr clock perf cpu start stamp) 75 (0, 0))) := FR.row
  have BL : Hid (Below w.heap.size w (W.drewN k)) := bel_drew FR.bel k
  clear FR KB c0 c1 c2 c3 c4
  generalize W.drewN k = V at *
  obtain ⟨c0, c1, c2, c3, c4⟩ := row_cells RW.out
  by_cases hc : clock = 2
  · obtain ⟨rfl, rfl⟩ := SY.sys hc
    clear SY
    subst hc
    go_wp2
    go_ret
    exact ⟨rfl, BL.out⟩
  · have e2 : (clock == 2) = false := by simpa using hc
    go_wp2_with (refine wpList_load_row rfl 75 (.tmp 2) rfl w.heap.size rfl 75 (argArr clock perf cpu start stamp) (0, 0) _ RW.out Yba.underlying75 rfl (by rw [argArr_size, info75]) ?_)
    refine (rate_is clock perf cpu start stamp _).mono ?_
    rintro e w4 ⟨rfl, kb⟩
    have RW4 : Hid (w4.heap[w.heap.size]? = some (.cells (argArr clock perf cpu start stamp) 75 (0, 0))) := row_next RW.out kb
    have BL4 : Hid (Below w.heap.size w w4) := bel_next BL.out kb
    clear kb RW BL c0 c1 c2 c3 c4
    obtain ⟨c0, c1, c2, c3, c4⟩ := row_cells RW4.out
    by_cases hr : rateOf clock perf cpu ≤ 0
    · obtain ⟨rfl, rfl⟩ := SY.zero hc hr
      clear SY
      generalize rateOf clock perf cpu = rate at *
      go_wp2
      go_ret
      exact ⟨rfl, BL4.out⟩
    · have hf := SY.rate hc (by omega)
      have FT : Hid (Fits ts start stamp (rateOf clock perf cpu) t ok) := hf
      clear SY hf
      generalize rateOf clock perf cpu = rate at *
      by_cases l1 : 4611686018427387904 < ts
      · go_wp2
        go_ret
        exact ⟨rfl, BL4.out⟩
      by_cases l2 : ts < -4611686018427387904
      · go_wp2
        go_ret
        exact ⟨rfl, BL4.out⟩
      by_cases l3 : 4611686018427387904 < stamp
      · go_wp2
        go_ret
        exact ⟨rfl, BL4.out⟩
      by_cases l4 : stamp < -4611686018427387904
      · go_wp2
        go_ret
        exact ⟨rfl, BL4.out⟩
      by_cases l5 : ts - stamp = 9223372036854775808
      · have hd : wrap64 (ts - stamp) = -9223372036854775808 := by rw [l5, wrap64_is]; omega
        clear l5
        go_wp2
        go_ret
        exact ⟨rfl, BL4.out⟩
      have hd : wrap64 (ts - stamp) = ts - stamp := wrap64_small (by omega) (by omega)
      have HD : Hid (wrap64 (ts - stamp) = ts - stamp) := hd
      clear hd
      go_upto_region 10 with fail
      go_cut [9] (fun v wx => v = .int .i64 (ts - stamp) ∧ wx = w4)
      case first =>
        go_wp2
        go_meet
        case rel => exact ⟨rfl, rfl⟩
      case rest =>
        obtain ⟨rfl, rfl⟩ := hcut
        clear HD
        by_cases d1 : 68719476736 < ts - stamp
        · go_wp2
          go_ret
          exact ⟨rfl, BL4.out⟩
        by_cases d2 : ts - stamp < -68719476736
        · go_wp2
          go_ret
          exact ⟨rfl, BL4.out⟩
        have hn : Near ts stamp := ⟨by omega, by omega⟩
        have HF0 := FT.out hn
        have HF : Hid (if start + floorQ ts stamp rate ≤ 9223372036854775807 ∧ -9223372036854775808 ≤ start + floorQ ts stamp rate then t = start + floorQ ts stamp rate ∧ ok = true else t = 0 ∧ ok = false) := HF0
        have hfb := floor_bound ts stamp rate (by omega) hn
        have hfl : floorQ ts stamp rate = (ts - stamp) * 10000000 / rate := rfl
        have HFL : Hid (floorQ ts stamp rate = (ts - stamp) * 10000000 / rate) := hfl
        have hpr : wrap64 ((ts - stamp) * 10000000) = (ts - stamp) * 10000000 := wrap64_small (by omega) (by omega)
        have HPR : Hid (wrap64 ((ts - stamp) * 10000000) = (ts - stamp) * 10000000) := hpr
        clear FT hn hfl hpr HF0 l1 l2 l3 l4 l5
        generalize floorQ ts stamp rate = q at *
        generalize ts - stamp = diff at *
        go_upto_region 13 with fail
        go_cut [10] (fun v wx => v = .int .i64 (diff * 10000000) ∧ wx = wc)
        case first =>
          go_wp2
          go_meet
          case rel => exact ⟨rfl, rfl⟩
        case rest =>
          obtain ⟨rfl, rfl⟩ := hcut
          clear HPR d1 d2
          generalize diff * 10000000 = prod at *
          have hnz : (rate == 0) = false := by simp; omega
          have hr0 : 0 < rate := by omega
          have HR : Hid (0 < rate) := hr0
          clear hr0
          go_upto_region 14 with fail
          go_cut [11] (fun v wx => v = .int .i64 (Int.tdiv prod rate) ∧ wx = wc)
          case first =>
            go_wp2
            go_meet
            case rel =>
              refine ⟨val_int ?_, rfl⟩
              rcases tdiv_near (p := prod) HR.out with h | h <;> (rw [h, ← HFL.out]; exact wrap64_small (by omega) (by omega))
          case rest =>
            obtain ⟨rfl, rfl⟩ := hcut
            by_cases p0 : prod < 0
            · by_cases pm : Int.tmod prod rate = 0
              · have hq := go_floor_even HR.out p0 pm
                rw [← HFL.out] at hq
                clear HFL
                have hsum : start + q ≤ 9223372036854775807 ∧ -9223372036854775808 ≤ start + q → wrap64 (start + q) = start + q := fun h => wrap64_small h.2 h.1
                by_cases q0 : 0 < q
                · have w1 : wrap64 (9223372036854775807 - q) = 9223372036854775807 - q := wrap64_small (by omega) (by omega)
                  have n1 : ¬ q < 0 := by omega
                  by_cases hin : start + q ≤ 9223372036854775807 ∧ -9223372036854775808 ≤ start + q
                  · have w3 := hsum hin
                    obtain ⟨rfl, rfl⟩ := pick_pos HF.out hin
                    have l1 : ¬ 9223372036854775807 - q < start := by omega
                    clear hin HF hsum
                    go_wp2
                    all_goals go_ret
                    all_goals exact ⟨rfl, BL4.out⟩
                  · obtain ⟨rfl, rfl⟩ := pick_neg HF.out hin
                    have l1 : 9223372036854775807 - q < start := by omega
                    clear hin HF hsum
                    go_wp2
                    all_goals go_ret
                    all_goals exact ⟨rfl, BL4.out⟩
                · by_cases q1 : q < 0
                  · have w2 : wrap64 (-9223372036854775808 - q) = -9223372036854775808 - q := wrap64_small (by omega) (by omega)
                    by_cases hin : start + q ≤ 9223372036854775807 ∧ -9223372036854775808 ≤ start + q
                    · have w3 := hsum hin
                      obtain ⟨rfl, rfl⟩ := pick_pos HF.out hin
                      have l1 : ¬ start < -9223372036854775808 - q := by omega
                      clear hin HF hsum
                      go_wp2
                      all_goals go_ret
                      all_goals exact ⟨rfl, BL4.out⟩
                    · obtain ⟨rfl, rfl⟩ := pick_neg HF.out hin
                      have l1 : start < -9223372036854775808 - q := by omega
                      clear hin HF hsum
                      go_wp2
                      all_goals go_ret
                      all_goals exact ⟨rfl, BL4.out⟩
                  · have hin : start + q ≤ 9223372036854775807 ∧ -9223372036854775808 ≤ start + q := by omega
                    have w3 := hsum hin
                    obtain ⟨rfl, rfl⟩ := pick_pos HF.out hin
                    clear hin HF hsum
                    go_wp2
                    all_goals go_ret
                    all_goals exact ⟨rfl, BL4.out⟩
              · have hq1 := go_floor_odd HR.out p0 pm
                rw [← HFL.out] at hq1
                have hq : wrap64 (Int.tdiv prod rate - 1) = q := by rw [hq1]; exact wrap64_small (by omega) (by omega)
                clear HFL hq1
                have hsum : start + q ≤ 9223372036854775807 ∧ -9223372036854775808 ≤ start + q → wrap64 (start + q) = start + q := fun h => wrap64_small h.2 h.1
                by_cases q0 : 0 < q
                · have w1 : wrap64 (9223372036854775807 - q) = 9223372036854775807 - q := wrap64_small (by omega) (by omega)
                  have n1 : ¬ q < 0 := by omega
                  by_cases hin : start + q ≤ 9223372036854775807 ∧ -9223372036854775808 ≤ start + q
                  · have w3 := hsum hin
                    obtain ⟨rfl, rfl⟩ := pick_pos HF.out hin
                    have l1 : ¬ 9223372036854775807 - q < start := by omega
                    clear hin HF hsum
                    go_wp2
                    all_goals go_ret
                    all_goals exact ⟨rfl, BL4.out⟩
                  · obtain ⟨rfl, rfl⟩ := pick_neg HF.out hin
                    have l1 : 9223372036854775807 - q < start := by omega
                    clear hin HF hsum
                    go_wp2
                    all_goals go_ret
                    all_goals exact ⟨rfl, BL4.out⟩
                · by_cases q1 : q < 0
                  · have w2 : wrap64 (-9223372036854775808 - q) = -9223372036854775808 - q := wrap64_small (by omega) (by omega)
                    by_cases hin : start + q ≤ 9223372036854775807 ∧ -9223372036854775808 ≤ start + q
                    · have w3 := hsum hin
                      obtain ⟨rfl, rfl⟩ := pick_pos HF.out hin
                      have l1 : ¬ start < -9223372036854775808 - q := by omega
                      clear hin HF hsum
                      go_wp2
                      all_goals go_ret
                      all_goals exact ⟨rfl, BL4.out⟩
                    · obtain ⟨rfl, rfl⟩ := pick_neg HF.out hin
                      have l1 : start < -9223372036854775808 - q := by omega
                      clear hin HF hsum
                      go_wp2
                      all_goals go_ret
                      all_goals exact ⟨rfl, BL4.out⟩
                  · have hin : start + q ≤ 9223372036854775807 ∧ -9223372036854775808 ≤ start + q := by omega
                    have w3 := hsum hin
                    obtain ⟨rfl, rfl⟩ := pick_pos HF.out hin
                    clear hin HF hsum
                    go_wp2
                    all_goals go_ret
                    all_goals exact ⟨rfl, BL4.out⟩
            · have hq := go_floor_up (r := rate) (Int.not_lt.1 p0)
              rw [← HFL.out] at hq
              clear HFL
              have hsum : start + q ≤ 9223372036854775807 ∧ -9223372036854775808 ≤ start + q → wrap64 (start + q) = start + q := fun h => wrap64_small h.2 h.1
              by_cases q0 : 0 < q
              · have w1 : wrap64 (9223372036854775807 - q) = 9223372036854775807 - q := wrap64_small (by omega) (by omega)
                have n1 : ¬ q < 0 := by omega
                by_cases hin : start + q ≤ 9223372036854775807 ∧ -9223372036854775808 ≤ start + q
                · have w3 := hsum hin
                  obtain ⟨rfl, rfl⟩ := pick_pos HF.out hin
                  have l1 : ¬ 9223372036854775807 - q < start := by omega
                  clear hin HF hsum
                  go_wp2
                  all_goals go_ret
                  all_goals exact ⟨rfl, BL4.out⟩
                · obtain ⟨rfl, rfl⟩ := pick_neg HF.out hin
                  have l1 : 9223372036854775807 - q < start := by omega
                  clear hin HF hsum
                  go_wp2
                  all_goals go_ret
                  all_goals exact ⟨rfl, BL4.out⟩
              · by_cases q1 : q < 0
                · have w2 : wrap64 (-9223372036854775808 - q) = -9223372036854775808 - q := wrap64_small (by omega) (by omega)
                  by_cases hin : start + q ≤ 9223372036854775807 ∧ -9223372036854775808 ≤ start + q
                  · have w3 := hsum hin
                    obtain ⟨rfl, rfl⟩ := pick_pos HF.out hin
                    have l1 : ¬ start < -9223372036854775808 - q := by omega
                    clear hin HF hsum
                    go_wp2
                    all_goals go_ret
                    all_goals exact ⟨rfl, BL4.out⟩
                  · obtain ⟨rfl, rfl⟩ := pick_neg HF.out hin
                    have l1 : start < -9223372036854775808 - q := by omega
                    clear hin HF hsum
                    go_wp2
                    all_goals go_ret
                    all_goals exact ⟨rfl, BL4.out⟩
                · have hin : start + q ≤ 9223372036854775807 ∧ -9223372036854775808 ≤ start + q := by omega
                  have w3 := hsum hin
                  obtain ⟨rfl, rfl⟩ := pick_pos HF.out hin
                  clear hin HF hsum
                  go_wp2
                  all_goals go_ret
                  all_goals exact ⟨rfl, BL4.out⟩
end Go.Proofs.Ybulkbojs
