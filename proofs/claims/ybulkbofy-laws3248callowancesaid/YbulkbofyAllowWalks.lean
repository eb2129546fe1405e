import Derived.Test.YbulkbofyExactWalks
import Derived.Test.YbulkbofyNearest
namespace Go.Proofs.Ybulkbofy
open Go.RowKit
set_option linter.unusedVariables false

def absB (x : Nat) : Nat := x % 2 ^ 63
def maxB : Nat := 9218868437227405311

theorem abs_bits (x : Nat) (hx : x < 2 ^ 64) : (bits .andNot .u64 (x : Int) 9223372036854775808).toNat = absB x := by
  have h := u64_andNot_nat x 9223372036854775808 (by omega) (by omega)
  have e : ((9223372036854775808 : Nat) : Int) = 9223372036854775808 := by omega
  rw [e] at h
  rw [h, Int.toNat_natCast]
  unfold absB
  rw [← Nat.and_two_pow_sub_one_eq_mod x 63]

set_option maxHeartbeats 400000 in
theorem abs_any (x : Nat) (hx : x < 2 ^ 64) (w : World) :
    Calls Yba.prog 8 #[.float .f64 x] w fun e w' => e = .returned (.float .f64 (absB x)) ∧ w' = w := by
  have hb := bits_run
  have hf := frombits_run
  have H : Hid ((bits .andNot .u64 (x : Int) 9223372036854775808).toNat = absB x) := abs_bits x hx
  clear hx
  go_enter Yba.func8, Yba.ntmps8
  go_wp2
  go_ret
  exact ⟨ret_float H.out, rfl⟩

set_option maxHeartbeats 400000 in
theorem isInf_any (x : Nat) (hx : x < 2 ^ 64) (w : World) :
    Calls Yba.prog 9 #[.float .f64 x, .int .i64 0] w fun e w' => e = .returned (.bool (FloatKind.f64.format.order (absB x) 9218868437227405311 == some Ordering.gt)) ∧ w' = w := by
  go_enter Yba.func9, Yba.ntmps9
  go_wp2_with fail
  refine (abs_any x hx _).mono ?_
  rintro e w1 ⟨rfl, rfl⟩
  go_wp2
  go_ret
  exact ⟨rfl, rfl⟩

set_option maxHeartbeats 400000 in
theorem allow_out (x m : Nat) (n : Int) (w : World) (h : n < 1 ∨ 1048576 < n) :
    Calls Yba.prog 4 #[.float .f64 x, .int .i64 n, .int .u32 m] w fun e w' => e = .returned (.bool true) ∧ ∃ k, w' = w.drewN k := by
  rcases h with h | h
  · go_enter Yba.func4, Yba.ntmps4
    go_wp2
    go_ret
    exact ⟨rfl, 0, rfl⟩
  · have h' : ¬ n < 1 := by omega
    go_enter Yba.func4, Yba.ntmps4
    go_wp2
    go_ret
    exact ⟨rfl, 0, rfl⟩


theorem absB_lt (x : Nat) : absB x < 2 ^ 63 := Nat.mod_lt _ (by decide)
theorem absB_absB (x : Nat) : absB (absB x) = absB x := Nat.mod_eq_of_lt (absB_lt x)

/-- what the law asks of its amount: positive and finite. -/
def Good (a : Nat) : Prop := 0 < a ∧ a < 2047 * 2 ^ 52

theorem good_half : Good 4609434218613702656 := by unfold Good; decide

theorem good_abs (x : Nat) (hg : (FloatKind.f64.format.order (absB x) 0 == some Ordering.gt) = true)
    (hi : (FloatKind.f64.format.order (absB x) 9218868437227405311 == some Ordering.gt) = false) : Good (absB x) := by
  have hl := absB_lt x
  generalize absB x = a at *
  have hg : (Ieee.double.read a).order (Ieee.double.read 0) = some Ordering.gt := by
    have h' : FloatKind.f64.format.order a 0 = some Ordering.gt := by simpa using hg
    exact h'
  have hi : (Ieee.double.read a).order (Ieee.double.read 9218868437227405311) ≠ some Ordering.gt := by
    intro h
    have h' : FloatKind.f64.format.order a 9218868437227405311 = some Ordering.gt := h
    rw [h'] at hi; cases hi
  have e0 : Ieee.double.read 0 = .number false 0 (-1074) := by decide +kernel
  have e1 : Ieee.double.read 9218868437227405311 = .number false (2 ^ 53 - 1) 971 := by decide +kernel
  constructor
  · rcases Nat.eq_zero_or_pos a with h | h
    · subst h; rw [e0] at hg; exact absurd hg (by decide +kernel)
    · exact h
  · refine Nat.lt_of_not_le fun hle => ?_
    have q1 : a / 2 ^ 63 % 2 = 0 := by rw [Nat.div_eq_of_lt hl]
    have q2 : a % 2 ^ 63 = a := Nat.mod_eq_of_lt hl
    have hr : Ieee.double.read a = .infinity false ∨ ∃ f, Ieee.double.read a = .nan false f := by
      unfold Ieee.Format.read
      simp only [sw_eq, bi_eq, ir_eq, lp_eq, q1, q2]
      rw [if_neg (by omega), if_neg (by omega)]
      split
      · exact .inl rfl
      · exact .inr ⟨_, rfl⟩
    rcases hr with hr | ⟨f, hr⟩
    · rw [hr, e1] at hi; exact hi rfl
    · rw [hr, e0] at hg; cases hg

theorem good_prev {a : Nat} (h : Good a) : prevO a = some (a - 1) := by
  obtain ⟨h0, h1⟩ := h
  have hn : ¬ IsNan a := by
    unfold IsNan
    rw [read_rung a h1]
    split <;> simp [Ieee.Datum.isNaN]
  have hv : ∃ v, v ≠ 0 ∧ Val a v := by
    have hr := read_rung a h1
    by_cases c : a < 2 ^ 52
    · rw [if_pos c] at hr; exact ⟨a, by omega, a, 0, by rw [hr]; simp, by simp⟩
    · rw [if_neg c] at hr
      exact ⟨_, Nat.mul_ne_zero (by omega) (Nat.pos_iff_ne_zero.1 (Nat.two_pow_pos _)), _, _, hr, rfl⟩
  obtain ⟨v, hv0, hv⟩ := hv
  have ho := val_order hv val_zero
  unfold prevO
  rw [if_neg (fun hh => hn ((isNan_iff a).1 hh)), if_neg]
  · unfold prevB
    have : IntKind.u64.wrap ((a : Int) - 1) = ((a - 1 : Nat) : Int) := by
      rw [IntKind.wrap_u64]; omega
    rw [this, Int.toNat_natCast]
  · rw [ho, Nat.compare_eq_gt.2 (Nat.pos_of_ne_zero hv0)]
    decide

theorem allow_plain {a : Nat} (h : Good a) (k n : Nat) (hk : k < 2 ^ 53) (hn : 2 * n < 2 ^ 53) :
    ∃ u bal, floatBits .sub .f64 a (a - 1) = some u ∧ floatBits .mul .f64 (floatOfInt .f64 (k : Int)) u = some bal ∧
      (FloatKind.f64.format.order bal bal == some Ordering.eq) = true ∧
      fle (fopt .sub (some bal) (some 0)) (slackO a (n : Int)) = decide (k ≤ 2 * n) := by
  obtain ⟨u, e, he, hu, vu⟩ := val_gap a h.1 h.2
  obtain ⟨bal, hb, vb⟩ := val_mul (val_ofNat k hk) vu ⟨k, e, hk, he, rfl⟩ (by rw [Nat.mul_assoc, Nat.mul_comm (2 ^ C), Nat.mul_assoc])
  obtain ⟨d, hd, vd⟩ := val_sub_zero vb ⟨k, e, hk, he, rfl⟩
  obtain ⟨t, ht, vt⟩ := val_mul val_two (val_ofNat n (by omega)) (v := 2 * n * 2 ^ C) ⟨2 * n, C, hn, by rw [C_eq]; omega, rfl⟩
    (by rw [Nat.mul_assoc 2 (2 ^ C), Nat.mul_left_comm (2 ^ C) n, ← Nat.mul_assoc 2 n, ← Nat.mul_assoc])
  obtain ⟨s, hs, vs⟩ := val_mul vt vu (v := 2 * n * 2 ^ e) ⟨2 * n, e, hn, he, rfl⟩ (by rw [Nat.mul_assoc, Nat.mul_comm (2 ^ C), ← Nat.mul_assoc])
  refine ⟨u, bal, hu, hb, ?_, ?_⟩
  · rw [val_order vb vb, Nat.compare_eq_eq.2 rfl]; decide
  · have h1 : fopt .sub (some bal) (some 0) = some d := hd
    have h2 : slackO a (n : Int) = some s := by
      unfold slackO
      rw [good_prev h]
      show fopt .mul (floatBits .mul .f64 4611686018427387904 (floatOfInt .f64 (n : Int))) (floatBits .sub .f64 a (a - 1)) = _
      rw [ht, hu]
      exact hs
    rw [h1, h2]
    simp only [fle]
    rw [val_order vd vs]
    have hp := Nat.two_pow_pos e
    rcases Nat.lt_trichotomy k (2 * n) with hlt | heq | hgt
    · rw [Nat.compare_eq_lt.2 ((Nat.mul_lt_mul_right hp).2 hlt)]; simp; omega
    · rw [heq, Nat.compare_eq_eq.2 rfl]; simp
    · rw [Nat.compare_eq_gt.2 ((Nat.mul_lt_mul_right hp).2 hgt)]; simp; omega

theorem allow_end {a r m : Nat} {n : Int} (h : Good a) (hr : Rep (prevO a) r) (h1 : 1 ≤ n) (h2 : n ≤ 1048576) (hm : m < 2 ^ 32) (w w' : World) :
    let K := wrap64 ((m : Int) % (4 * n + 2))
    let bal := fres .mul (floatOfInt .f64 K) (fres .sub a r w) w'
    (K ≤ 2 * n → (FloatKind.f64.format.order (repB a bal 0 n) bal == some Ordering.eq) = true) ∧
    (¬ K ≤ 2 * n → (FloatKind.f64.format.order (repB a bal 0 n) 0 == some Ordering.eq) = true) := by
  intro K bal
  obtain ⟨N, rfl⟩ := Int.eq_ofNat_of_zero_le (by omega : 0 ≤ n)
  have hK : K = ((m % (4 * N + 2) : Nat) : Int) := by
    show wrap64 _ = _
    have e1 : (m : Int) % (4 * (N : Int) + 2) = ((m % (4 * N + 2) : Nat) : Int) := by push_cast; rfl
    rw [e1]
    have := Nat.mod_lt m (show 0 < 4 * N + 2 by omega)
    unfold wrap64; omega
  have hlt := Nat.mod_lt m (show 0 < 4 * N + 2 by omega)
  obtain ⟨u, b, e1, e2, e3, e4⟩ := allow_plain h (m % (4 * N + 2)) N (by omega) (by omega)
  have hr' : r = a - 1 := hr.1 _ (good_prev h)
  have hbal : bal = b := by
    show fres .mul (floatOfInt .f64 K) (fres .sub a r w) w' = b
    unfold fres
    rw [hr', e1, hK]
    simp only [Option.getD_some, e2]
  rw [hbal, hK]
  unfold repB
  rw [e4]
  constructor
  · intro hle
    rw [if_pos (by simp; omega)]; exact e3
  · intro hle
    rw [if_neg (by simp; omega)]; decide +kernel

set_option maxHeartbeats 400000 in
theorem allow_in (x m : Nat) (n : Int) (w : World) (h1 : 1 ≤ n) (h2 : n ≤ 1048576) (hm : m < 2 ^ 32) (hx : x < 2 ^ 64) :
    Calls Yba.prog 4 #[.float .f64 x, .int .i64 n, .int .u32 m] w fun e w' => e = .returned (.bool true) ∧ ∃ k, w' = w.drewN k := by
  have hs := run_sub
  have hmu := run_mul
  have HX : Hid (x < 2 ^ 64) := hx
  have HM : Hid (m < 2 ^ 32) := hm
  clear hx
  by_cases hg : (FloatKind.f64.format.order (absB x) 0 == some Ordering.gt) = true
  · go_enter Yba.func4, Yba.ntmps4
    go_wp2_with fail
    refine (abs_any x HX.out _).mono ?_
    rintro e w1 ⟨rfl, rfl⟩
    go_wp2_with fail
    refine (isInf_any (absB x) (by have := absB_lt x; omega) _).mono ?_
    rintro e w1 ⟨rfl, rfl⟩
    rw [absB_absB]
    by_cases hi : (FloatKind.f64.format.order (absB x) 9218868437227405311 == some Ordering.gt) = true
    · go_wp2_with fail
      refine (prev_any _ _).mono ?_
      rintro e w1 ⟨r, rfl, hr, rfl⟩
      go_wp2_with fail
      refine (repayment_any _ _ _ _ _).mono ?_
      rintro e w2 ⟨rfl, k, rfl⟩
      go_wp2
      · go_ret
        exact ⟨ret_bool ((allow_end good_half hr h1 h2 HM.out _ _).1 ‹_›), _, rfl⟩
      · go_ret
        exact ⟨ret_bool ((allow_end good_half hr h1 h2 HM.out _ _).2 (by omega)), _, rfl⟩
    · have hi : (FloatKind.f64.format.order (absB x) 9218868437227405311 == some Ordering.gt) = false := by simpa using hi
      have G : Hid (Good (absB x)) := good_abs x hg hi
      go_wp2_with fail
      refine (prev_any _ _).mono ?_
      rintro e w1 ⟨r, rfl, hr, rfl⟩
      go_wp2_with fail
      refine (repayment_any _ _ _ _ _).mono ?_
      rintro e w2 ⟨rfl, k, rfl⟩
      go_wp2
      · go_ret
        exact ⟨ret_bool ((allow_end G.out hr h1 h2 HM.out _ _).1 ‹_›), _, rfl⟩
      · go_ret
        exact ⟨ret_bool ((allow_end G.out hr h1 h2 HM.out _ _).2 (by omega)), _, rfl⟩
  · have hg : (FloatKind.f64.format.order (absB x) 0 == some Ordering.gt) = false := by simpa using hg
    go_enter Yba.func4, Yba.ntmps4
    go_wp2_with fail
    refine (abs_any x HX.out _).mono ?_
    rintro e w1 ⟨rfl, rfl⟩
    go_wp2_with fail
    refine (prev_any _ _).mono ?_
    rintro e w1 ⟨r, rfl, hr, rfl⟩
    go_wp2_with fail
    refine (repayment_any _ _ _ _ _).mono ?_
    rintro e w2 ⟨rfl, k, rfl⟩
    go_wp2
    · go_ret
      exact ⟨ret_bool ((allow_end good_half hr h1 h2 HM.out _ _).1 ‹_›), _, rfl⟩
    · go_ret
      exact ⟨ret_bool ((allow_end good_half hr h1 h2 HM.out _ _).2 (by omega)), _, rfl⟩

theorem allow_any (x m : Nat) (n : Int) (w : World) (hm : m < 2 ^ 32) (hx : x < 2 ^ 64) :
    Calls Yba.prog 4 #[.float .f64 x, .int .i64 n, .int .u32 m] w fun e w' => e = .returned (.bool true) ∧ ∃ k, w' = w.drewN k := by
  by_cases h : n < 1 ∨ 1048576 < n
  · exact allow_out x m n w h
  · exact allow_in x m n w (by omega) (by omega) hm hx
end Go.Proofs.Ybulkbofy
