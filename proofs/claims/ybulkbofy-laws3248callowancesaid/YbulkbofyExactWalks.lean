import Derived.Test.YbulkbofyFloat
namespace Go.Proofs.Ybulkbofy
open Go.RowKit

theorem bits_run (x : Nat) (w : World) : (callFunc 6 #[.float .f64 x]).run Yba.prog w = .ok (.value (.int .u64 x)) w := by
  rw [run_callFunc_extern Yba.func6 (by kernel_rfl) (by kernel_rfl) (by kernel_rfl) (e := Extern.MathFloatBits.float64bits) (by kernel_rfl)]
  rfl
theorem frombits_run (n : Int) (w : World) : (callFunc 10 #[.int .u64 n]).run Yba.prog w = .ok (.value (.float .f64 n.toNat)) w := by
  rw [run_callFunc_extern Yba.func10 (by kernel_rfl) (by kernel_rfl) (by kernel_rfl) (e := Extern.MathFloatBits.float64frombits) (by kernel_rfl)]
  rfl

set_option maxHeartbeats 400000 in
theorem prev_any (x : Nat) (w : World) :
    Calls Yba.prog 5 #[.float .f64 x] w fun e w' => ∃ r, e = .returned (.float .f64 r) ∧ Rep (prevO x) r ∧ w' = w := by
  have hb := bits_run
  have hf := frombits_run
  go_enter Yba.func5, Yba.ntmps5
  go_wp2
  all_goals go_ret
  · rename_i h
    exact ⟨x, rfl, by unfold prevO; rw [if_pos h]; exact rep_none ((isNan_iff x).1 h), rfl⟩
  · rename_i h1 _ _ h2
    exact ⟨x, rfl, by unfold prevO; rw [h1, h2]; exact rep_some x, rfl⟩
  · rename_i h1 h2
    exact ⟨prevB x, rfl, by unfold prevO; rw [h1, h2]; exact rep_some _, rfl⟩

set_option maxHeartbeats 400000 in
theorem next_any (x : Nat) (w : World) :
    Calls Yba.prog 11 #[.float .f64 x, .float .f64 0] w fun e w' => ∃ r, e = .returned (.float .f64 r) ∧ Rep (prevO x) r ∧ w' = w := by
  have hb := bits_run
  have hf := frombits_run
  have h00 : (FloatKind.f64.format.order 0 0 != some Ordering.eq) = false := by decide +kernel
  by_cases h1 : (FloatKind.f64.format.order x x != some Ordering.eq) = true
  · go_enter Yba.func11, Yba.ntmps11
    go_wp2
    go_ret
    refine ⟨9221120237041090561, rfl, ?_, rfl⟩
    unfold prevO; rw [if_pos h1]; exact rep_none (by unfold IsNan; decide +kernel)
  · have h1 : (FloatKind.f64.format.order x x != some Ordering.eq) = false := by simpa using h1
    by_cases h2 : (FloatKind.f64.format.order x 0 == some Ordering.eq) = true
    · go_enter Yba.func11, Yba.ntmps11
      go_wp2
      go_ret
      exact ⟨x, rfl, by unfold prevO; rw [h1, h2]; exact rep_some x, rfl⟩
    · have h2 : (FloatKind.f64.format.order x 0 == some Ordering.eq) = false := by simpa using h2
      have h3 := sides h1 h2
      go_enter Yba.func11, Yba.ntmps11
      go_wp2
      go_ret
      exact ⟨prevB x, rfl, by unfold prevO; rw [h1, h2]; exact rep_some _, rfl⟩

def repB (amount balance due : Nat) (n : Int) : Nat :=
  if fle (fopt .sub (some balance) (some due)) (slackO amount n) = true then balance else due

theorem fle_yes {o o' : Option Nat} {b b' : Nat} (h : Rep o b) (h' : Rep o' b')
    (t : (FloatKind.f64.format.order b b' == some Ordering.lt) = true ∨ (FloatKind.f64.format.order b b' == some Ordering.eq) = true) : fle o o' = true := by
  rw [← rep_le h h', Bool.or_eq_true]; exact t
theorem fle_no {o o' : Option Nat} {b b' : Nat} (h : Rep o b) (h' : Rep o' b')
    (t : (FloatKind.f64.format.order b b' == some Ordering.lt) = false ∧ (FloatKind.f64.format.order b b' == some Ordering.eq) = false) : fle o o' = false := by
  rw [← rep_le h h', Bool.or_eq_false_iff]; exact t
theorem ret_float {a b : Nat} (h : a = b) : Ending.returned (.float .f64 a) = .returned (.float .f64 b) := by rw [h]
theorem ret_bool {a b : Bool} (h : a = b) : Ending.returned (.bool a) = .returned (.bool b) := by rw [h]

set_option maxHeartbeats 400000 in
theorem repayment_any (amount balance due : Nat) (n : Int) (w : World) :
    Calls Yba.prog 7 #[.float .f64 amount, .float .f64 balance, .float .f64 due, .int .i64 n] w fun e w' =>
      e = .returned (.float .f64 (repB amount balance due n)) ∧ ∃ k, w' = w.drewN k := by
  have hs := run_sub
  have hm := run_mul
  go_enter Yba.func7, Yba.ntmps7
  go_wp2_with fail
  refine (next_any amount _).mono ?_
  rintro e w1 ⟨r, rfl, hr, rfl⟩
  go_wp2
  all_goals go_ret
  · rename_i t
    have hf : fle (fopt .sub (some balance) (some due)) (slackO amount n) = true :=
      fle_yes (rep_op (.inl rfl) (rep_some _) (rep_some _) _) (rep_op (.inr rfl) (rep_op (.inr rfl) (rep_some _) (rep_some _) _) (rep_op (.inl rfl) (rep_some _) hr _) _) t
    exact ⟨ret_float (by unfold repB; rw [if_pos hf]), _, rfl⟩
  · rename_i t
    have hf : fle (fopt .sub (some balance) (some due)) (slackO amount n) = false :=
      fle_no (rep_op (.inl rfl) (rep_some _) (rep_some _) _) (rep_op (.inr rfl) (rep_op (.inr rfl) (rep_some _) (rep_some _) _) (rep_op (.inl rfl) (rep_some _) hr _) _) t
    exact ⟨ret_float (by unfold repB; rw [hf]; rfl), _, rfl⟩

set_option maxHeartbeats 400000 in
theorem exact_any (amount balance due : Nat) (n : Int) (w : World) :
    Calls Yba.prog 3 #[.float .f64 amount, .float .f64 balance, .float .f64 due, .int .i64 n] w fun e w' =>
      e = .returned (.bool true) ∧ ∃ k, w' = w.drewN k := by
  have hs := run_sub
  have hm := run_mul
  have hb := bits_run
  go_enter Yba.func3, Yba.ntmps3
  go_wp2_with fail
  refine (prev_any amount _).mono ?_
  rintro e w1 ⟨r, rfl, hr, rfl⟩
  go_wp2_with fail
  refine (repayment_any amount balance due n _).mono ?_
  rintro e w1 ⟨rfl, k, rfl⟩
  go_wp2
  all_goals go_ret
  · rename_i t
    have hf : fle (fopt .sub (some balance) (some due)) (slackO amount n) = true :=
      fle_yes (rep_op (.inl rfl) (rep_some _) (rep_some _) _) (rep_op (.inr rfl) (rep_op (.inr rfl) (rep_some _) (rep_some _) _) (rep_op (.inl rfl) (rep_some _) hr _) _) t
    exact ⟨ret_bool (by unfold repB; rw [if_pos hf]; simp), _, rfl⟩
  · rename_i t
    have hf : fle (fopt .sub (some balance) (some due)) (slackO amount n) = false :=
      fle_no (rep_op (.inl rfl) (rep_some _) (rep_some _) _) (rep_op (.inr rfl) (rep_op (.inr rfl) (rep_some _) (rep_some _) _) (rep_op (.inl rfl) (rep_some _) hr _) _) t
    exact ⟨ret_bool (by unfold repB; rw [hf]; simp), _, rfl⟩
end Go.Proofs.Ybulkbofy
