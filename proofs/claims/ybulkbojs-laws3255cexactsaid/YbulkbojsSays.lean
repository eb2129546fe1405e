import Derived.Test.YbulkbojsScale
import Derived.Test.YbulkbojsTime
namespace Go.Proofs.Ybulkbojs
open Go.RowKit
set_option linter.unusedVariables false

theorem neg_floor (P r : Nat) (hr : 0 < r) : (-(P : Int)) / (r : Int) = -((ceilQ P r : Nat) : Int) := by
  have hdm := Nat.div_add_mod P r
  have hlt := Nat.mod_lt P hr
  unfold ceilQ
  by_cases h : P % r = 0
  · rw [if_pos h]
    rw [h, Nat.add_zero] at hdm
    have e : -(P : Int) = (r : Int) * (-((P / r : Nat) : Int)) := by
      rw [Int.mul_neg, ← Int.natCast_mul, hdm]
    rw [e, Int.mul_ediv_cancel_left _ (by omega)]
  · rw [if_neg h]
    have e : -(P : Int) = ((r : Int) - ((P % r : Nat) : Int)) + (r : Int) * (-((P / r + 1 : Nat) : Int)) := by
      have h2 : (P : Int) = (r : Int) * ((P / r : Nat) : Int) + ((P % r : Nat) : Int) := by rw [← Int.natCast_mul, ← Int.natCast_add, hdm]
      rw [Int.mul_neg, Int.natCast_add, Int.mul_add]
      omega
    rw [e, Int.add_mul_ediv_left _ _ (by omega), Int.ediv_eq_zero_of_lt (by omega) (by omega)]
    omega

/-- the timestamps lie near one another. -/
def Near (ts stamp : Int) : Prop := ts - stamp ≤ 68719476736 ∧ -68719476736 ≤ ts - stamp
/-- the floor of the quotient. -/
def floorQ (ts stamp rate : Int) : Int := ((ts - stamp) * 10000000) / rate

theorem ceil_le (P r : Nat) (hr : 0 < r) : ceilQ P r ≤ P := by
  have h1 := Nat.div_le_self P r
  unfold ceilQ
  split
  · exact h1
  · rename_i h
    rcases Nat.lt_or_ge r 2 with h2 | h2
    · exact absurd (by rw [show r = 1 by omega]; exact Nat.mod_one P) h
    · rcases Nat.eq_zero_or_pos P with h0 | h0
      · exact absurd (by rw [h0]; simp) h
      · have := Nat.div_lt_self h0 h2
        omega
theorem wrap64_small {x : Int} (h1 : -9223372036854775808 ≤ x) (h2 : x ≤ 9223372036854775807) : wrap64 x = x := by
  unfold wrap64; omega
theorem wrap64_nat (x : Nat) (h2 : x ≤ 9223372036854775807) : wrap64 (x : Int) = (x : Int) := wrap64_small (by omega) (by omega)
theorem wrap64_u64 {x : Int} (h1 : -9223372036854775808 ≤ x) (h2 : x ≤ 9223372036854775807) : wrap64 (IntKind.u64.wrap x) = x := by
  rw [IntKind.wrap_u64]; unfold wrap64; omega

theorem scale_says (ts stamp rate : Int) (ha : -9223372036854775808 ≤ ts ∧ ts ≤ 9223372036854775807) (hb : -9223372036854775808 ≤ stamp ∧ stamp ≤ 9223372036854775807) (hr : 0 < rate) (hr2 : rate ≤ 9223372036854775807) :
    ScaleIs ts stamp rate (fun d ok => Near ts stamp → d = floorQ ts stamp rate ∧ ok = true) := by
  intro w
  obtain ⟨r, rfl⟩ : ∃ r : Nat, rate = (r : Int) := ⟨rate.toNat, by omega⟩
  have hr0 : 0 < r := by omega
  by_cases h : ts < stamp
  · by_cases hP : (stamp - ts).toNat * 10000000 < 18446744073709551615
    · refine (scale_up divZero ts stamp r w ha hb hr0 (by omega) h hP).mono ?_
      rintro e w' ⟨rfl, k, rfl⟩
      refine ⟨_, _, rfl, fun hn => ?_, k, rfl⟩
      unfold Near at hn
      have hc := ceil_le ((stamp - ts).toNat * 10000000) r hr0
      refine ⟨?_, decide_eq_true (by omega)⟩
      rw [wrap64_u64 (by omega) (by omega), ← neg_floor _ _ hr0]
      unfold floorQ
      congr 1
      omega
    · refine (scale_big divAny ts stamp r w ha hb hr0 (by omega) (by omega)).mono ?_
      rintro e w' ⟨q, ok, rfl, k, rfl⟩
      exact ⟨_, _, rfl, fun hn => absurd hP (by unfold Near at hn; omega), k, rfl⟩
  · by_cases hP : (ts - stamp).toNat * 10000000 < 18446744073709551616
    · refine (scale_down divZero ts stamp r w ha hb hr0 (by omega) h hP).mono ?_
      rintro e w' ⟨rfl, k, rfl⟩
      refine ⟨_, _, rfl, fun hn => ?_, k, rfl⟩
      unfold Near at hn
      have hc := Nat.div_le_self ((ts - stamp).toNat * 10000000) r
      refine ⟨?_, decide_eq_true (by omega)⟩
      rw [wrap64_nat _ (by omega), Int.natCast_ediv]
      unfold floorQ
      congr 1
      omega
    · refine (scale_big divAny ts stamp r w ha hb hr0 (by omega) (by omega)).mono ?_
      rintro e w' ⟨q, ok, rfl, k, rfl⟩
      exact ⟨_, _, rfl, fun hn => absurd hP (by unfold Near at hn; omega), k, rfl⟩

/-- what Time answers where the clock has a rate. -/
def Fits (ts start stamp rate t : Int) (ok : Bool) : Prop :=
  Near ts stamp → if start + floorQ ts stamp rate ≤ 9223372036854775807 ∧ -9223372036854775808 ≤ start + floorQ ts stamp rate then t = start + floorQ ts stamp rate ∧ ok = true else t = 0 ∧ ok = false
structure Says (clock perf cpu start stamp ts t : Int) (ok : Bool) : Prop where
  sys : clock = 2 → t = ts ∧ ok = true
  zero : clock ≠ 2 → rateOf clock perf cpu ≤ 0 → t = 0 ∧ ok = false
  rate : clock ≠ 2 → 0 < rateOf clock perf cpu → Fits ts start stamp (rateOf clock perf cpu) t ok
/-- how Time ends, whatever the header. -/
def TimeSaid (clock perf cpu start stamp ts : Int) (w : World) (e : Ending) (w' : World) : Prop :=
  ∃ (t : Int) (ok : Bool), e = .returned (.tuple #[.int .i64 t, .bool ok]) ∧ Says clock perf cpu start stamp ts t ok ∧ ∃ k, w' = w.drewN k

theorem floor_bound (ts stamp rate : Int) (hr : 0 < rate) (hn : Near ts stamp) : -687194767360000000 ≤ floorQ ts stamp rate ∧ floorQ ts stamp rate ≤ 687194767360000000 := by
  unfold Near at hn
  unfold floorQ
  constructor
  · rw [Int.le_ediv_iff_mul_le hr]
    have : -687194767360000000 * rate ≤ -687194767360000000 * 1 := by omega
    omega
  · have h := Int.ediv_lt_of_lt_mul hr (a := (ts - stamp) * 10000000) (b := 687194767360000001) (by omega)
    omega
theorem wrap64_is (x : Int) : wrap64 x = (x + 9223372036854775808) % 18446744073709551616 - 9223372036854775808 := by
  unfold wrap64; omega

theorem time_says (w : World) (b : Nat) (clock perf cpu start stamp ts : Int) (h : Hdr w b clock perf cpu start stamp) (hp : perf ≤ 9223372036854775807)
    (ha : -9223372036854775808 ≤ ts ∧ ts ≤ 9223372036854775807) (hb : -9223372036854775808 ≤ stamp ∧ stamp ≤ 9223372036854775807) (hs : -9223372036854775808 ≤ start ∧ start ≤ 9223372036854775807) :
    Calls Yba.prog 13 #[.pointer (some ⟨b, 0, none⟩), .int .i64 ts] w fun e w' => TimeSaid clock perf cpu start stamp ts w e w' := by
  by_cases hc : clock = 2
  · subst hc
    refine (time_sys w b perf cpu start stamp ts h).mono ?_
    rintro e w' ⟨rfl, rfl⟩
    exact ⟨_, _, rfl, ⟨fun _ => ⟨rfl, rfl⟩, fun h => absurd rfl h, fun h => absurd rfl h⟩, 0, rfl⟩
  · by_cases hr : rateOf clock perf cpu ≤ 0
    · refine (time_zero w b clock perf cpu start stamp ts h hc hr).mono ?_
      rintro e w' ⟨rfl, rfl⟩
      exact ⟨_, _, rfl, ⟨fun h => absurd h hc, fun _ _ => ⟨rfl, rfl⟩, fun _ h => absurd hr (by omega)⟩, 0, rfl⟩
    · have hr2 : rateOf clock perf cpu ≤ 9223372036854775807 := by
        unfold rateOf
        split
        · exact hp
        · split
          · rw [wrap64_is]; omega
          · omega
      refine (time_rate w b clock perf cpu start stamp ts h hc (by omega) hr2 _ (scale_says ts stamp _ ha hb (by omega) hr2)).mono ?_
      rintro e w' ⟨d, ok, hP, rfl, k, rfl⟩
      refine ⟨_, _, rfl, ⟨fun h => absurd h hc, fun _ h => absurd h hr, fun _ _ hn => ?_⟩, k, rfl⟩
      obtain ⟨rfl, rfl⟩ := hP hn
      have hfb := floor_bound ts stamp _ (by omega) hn
      generalize floorQ ts stamp (rateOf clock perf cpu) = q at *
      by_cases hin : start + q ≤ 9223372036854775807 ∧ -9223372036854775808 ≤ start + q
      · have nb : ¬ timeBad start q true := by unfold timeBad; rw [wrap64_is]; simp; omega
        rw [if_pos hin]
        unfold timeT
        rw [if_neg nb]
        exact ⟨wrap64_small hin.2 hin.1, decide_eq_true nb⟩
      · have bad : timeBad start q true := by unfold timeBad; rw [wrap64_is]; simp; omega
        rw [if_neg hin]
        unfold timeT
        rw [if_pos bad]
        exact ⟨rfl, decide_eq_false (fun h => h bad)⟩
end Go.Proofs.Ybulkbojs
