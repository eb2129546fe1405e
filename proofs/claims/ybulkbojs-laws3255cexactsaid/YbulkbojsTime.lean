import Derived.Test.YbulkbojsMul
import Derived.Deep.CutBlock
namespace Go.Proofs.Ybulkbojs
open Go.RowKit
set_option linter.unusedVariables false

/-- ticks in a second, as Time reads them off the header. -/
def rateOf (clock perf cpu : Int) : Int := if clock = 1 then perf else if clock = 3 then wrap64 (wrap64 cpu * 1000000) else 0
/-- what Time answers behind the quotient. -/
abbrev timeBad (start d : Int) (ok : Bool) : Prop := ok = false ∨ (0 < d ∧ wrap64 (start + d) < start) ∨ (d < 0 ∧ start < wrap64 (start + d))
def timeT (start d : Int) (ok : Bool) : Int := if timeBad start d ok then 0 else wrap64 (start + d)

/-- the cells of the header that Time reads. -/
structure Hdr (w : World) (b : Nat) (clock perf cpu start stamp : Int) : Prop where
  c16 : w.cell? ⟨b, 16, none⟩ = some (.int .u32 cpu)
  c19 : w.cell? ⟨b, 19, none⟩ = some (.int .i64 perf)
  c20 : w.cell? ⟨b, 20, none⟩ = some (.int .i64 start)
  c21 : w.cell? ⟨b, 21, none⟩ = some (.int .u32 clock)
  c23 : w.cell? ⟨b, 23, none⟩ = some (.int .i64 stamp)

set_option maxHeartbeats 1000000 in
theorem time_sys (w : World) (b : Nat) (perf cpu start stamp ts : Int) (h : Hdr w b 2 perf cpu start stamp) :
    Calls Yba.prog 13 #[.pointer (some ⟨b, 0, none⟩), .int .i64 ts] w fun e w' => e = .returned (.tuple #[.int .i64 ts, .bool true]) ∧ w' = w := by
  obtain ⟨h16, h19, h20, h21, h23⟩ := h
  go_enter Yba.func13, Yba.ntmps13
  go_wp2
  go_ret2
  exact ⟨rfl, rfl⟩
set_option maxHeartbeats 1000000 in
theorem time_zero (w : World) (b : Nat) (clock perf cpu start stamp ts : Int) (h : Hdr w b clock perf cpu start stamp) (hc : clock ≠ 2) (hr : rateOf clock perf cpu ≤ 0) :
    Calls Yba.prog 13 #[.pointer (some ⟨b, 0, none⟩), .int .i64 ts] w fun e w' => e = .returned (.tuple #[.int .i64 0, .bool false]) ∧ w' = w := by
  obtain ⟨h16, h19, h20, h21, h23⟩ := h
  have e2 : (clock == 2) = false := by simpa using hc
  unfold rateOf at hr
  by_cases k1 : clock = 1
  · subst k1
    simp only [if_pos] at hr
    go_enter Yba.func13, Yba.ntmps13
    go_wp2
    go_ret2
    exact ⟨rfl, rfl⟩
  · rw [if_neg k1] at hr
    have e1 : (clock == 1) = false := by simpa using k1
    by_cases k3 : clock = 3
    · subst k3
      simp only [if_pos] at hr
      go_enter Yba.func13, Yba.ntmps13
      go_wp2
      go_ret2
      exact ⟨rfl, rfl⟩
    · rw [if_neg k3] at hr
      have e3 : (clock == 3) = false := by simpa using k3
      go_enter Yba.func13, Yba.ntmps13
      go_wp2
      go_ret2
      exact ⟨rfl, rfl⟩

/-- what a walk of scaleFloor gives. -/
def ScaleIs (ts stamp rate : Int) (P : Int → Bool → Prop) : Prop := ∀ w : World, Calls Yba.prog 17 #[.int .i64 ts, .int .i64 stamp, .int .u64 10000000, .int .u64 rate] w fun e w' =>
  ∃ (d : Int) (ok : Bool), e = .returned (.tuple #[.int .i64 d, .bool ok]) ∧ P d ok ∧ ∃ k, w' = w.drewN k

theorem hdr_drew {w : World} {b : Nat} {clock perf cpu start stamp : Int} (h : Hdr w b clock perf cpu start stamp) (k : Nat) : Hdr (w.drewN k) b clock perf cpu start stamp :=
  ⟨h.c16, h.c19, h.c20, h.c21, h.c23⟩

theorem ans_ok {s d : Int} {ok : Bool} {x : Int} (h : timeBad s d ok) (hx : x = 0) : Ending.returned (.tuple #[.int .i64 x, .bool false]) = .returned (.tuple #[.int .i64 (timeT s d ok), .bool (decide (¬ timeBad s d ok))]) := by
  subst hx; unfold timeT; simp [h]
theorem ans_no {s d : Int} {ok : Bool} (h : ¬ timeBad s d ok) : Ending.returned (.tuple #[.int .i64 (wrap64 (s + d)), .bool true]) = .returned (.tuple #[.int .i64 (timeT s d ok), .bool (decide (¬ timeBad s d ok))]) := by
  unfold timeT; simp [h]

/-- how Time ends. -/
def TimeEnds (P : Int → Bool → Prop) (start : Int) (w : World) (e : Ending) (w' : World) : Prop := ∃ (d : Int) (ok : Bool), P d ok ∧
  e = .returned (.tuple #[.int .i64 (timeT start d ok), .bool (decide (¬ timeBad start d ok))]) ∧ ∃ k, w' = w.drewN k
set_option maxHeartbeats 1000000 in
theorem time_rate (w : World) (b : Nat) (clock perf cpu start stamp ts : Int) (h : Hdr w b clock perf cpu start stamp) (hc : clock ≠ 2) (hr : 0 < rateOf clock perf cpu) (hr2 : rateOf clock perf cpu ≤ 9223372036854775807)
    (P : Int → Bool → Prop) (hs : ScaleIs ts stamp (rateOf clock perf cpu) P) :
    Calls Yba.prog 13 #[.pointer (some ⟨b, 0, none⟩), .int .i64 ts] w fun e w' => TimeEnds P start w e w' := by
  obtain ⟨h16, h19, h20, h21, h23⟩ := h
  have e2 : (clock == 2) = false := by simpa using hc
  have HS : Hid (ScaleIs ts stamp (rateOf clock perf cpu) P) := hs
  have hu : IntKind.u64.wrap (rateOf clock perf cpu) = rateOf clock perf cpu := by rw [IntKind.wrap_u64]; omega
  have HU : Hid (IntKind.u64.wrap (rateOf clock perf cpu) = rateOf clock perf cpu) := hu
  clear hs hu hr2
  go_enter Yba.func13, Yba.ntmps13
  go_upto_block 0 with fail
  go_cut [6] (fun v wx => v = .int .i64 (rateOf clock perf cpu) ∧ wx = w)
  case first =>
    unfold rateOf at *
    clear hr
    by_cases k1 : clock = 1
    · subst k1
      go_wp2
      go_meet
      case rel => exact ⟨rfl, rfl⟩
    · have e1 : (clock == 1) = false := by simpa using k1
      by_cases k3 : clock = 3
      · subst k3
        go_wp2
        go_meet
        case rel => exact ⟨rfl, rfl⟩
      · have e3 : (clock == 3) = false := by simpa using k3
        go_wp2
        go_meet
        case rel => exact ⟨by rw [if_neg k1, if_neg k3], rfl⟩
  case rest =>
    obtain ⟨rfl, rfl⟩ := hcut
    generalize rateOf clock perf cpu = rate at *
    have hr' : ¬ rate ≤ 0 := by omega
    go_wp2_with fail
    rw [HU.out]
    refine (HS.out _).mono ?_
    rintro e w1 ⟨d, ok, rfl, hP, k, rfl⟩
    cases ok
    · go_wp2
      go_ret2
      exact ⟨_, _, hP, ans_ok (.inl rfl) rfl, k, rfl⟩
    · by_cases d0 : 0 < d
      · by_cases d1 : wrap64 (start + d) < start
        · go_wp2
          go_ret2
          exact ⟨_, _, hP, ans_ok (.inr (.inl ⟨d0, d1⟩)) rfl, k, rfl⟩
        · have d2 : ¬ d < 0 := by omega
          go_wp2
          go_ret2
          exact ⟨_, _, hP, ans_no (by unfold timeBad; simp; omega), k, rfl⟩
      · by_cases d2 : d < 0
        · by_cases d1 : start < wrap64 (start + d)
          · go_wp2
            go_ret2
            exact ⟨_, _, hP, ans_ok (.inr (.inr ⟨d2, d1⟩)) rfl, k, rfl⟩
          · go_wp2
            go_ret2
            exact ⟨_, _, hP, ans_no (by unfold timeBad; simp; omega), k, rfl⟩
        · go_wp2
          go_ret2
          exact ⟨_, _, hP, ans_no (by unfold timeBad; simp; omega), k, rfl⟩
end Go.Proofs.Ybulkbojs
