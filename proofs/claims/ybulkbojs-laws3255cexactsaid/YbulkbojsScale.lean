import Derived.Test.YbulkbojsDiv
namespace Go.Proofs.Ybulkbojs
open Go.RowKit
set_option linter.unusedVariables false

def DivZero : Prop := ∀ (lo y : Nat), 0 < y → lo < 18446744073709551616 → y < 18446744073709551616 → ∀ (w : World),
    Calls Yba.prog 19 #[.int .u64 0, .int .u64 lo, .int .u64 y] w fun e w' => e = .returned (.tuple #[.int .u64 ((lo / y : Nat) : Int), .int .u64 ((lo % y : Nat) : Int)]) ∧ ∃ k, w' = w.drewN k
def DivAny : Prop := ∀ (hi lo y : Nat), 0 < hi → hi < y → lo < 18446744073709551616 → y < 18446744073709551616 → ∀ (w : World),
    Calls Yba.prog 19 #[.int .u64 hi, .int .u64 lo, .int .u64 y] w fun e w' => ∃ q r : Int, e = .returned (.tuple #[.int .u64 q, .int .u64 r]) ∧ ∃ k, w' = w.drewN k

theorem divZero : DivZero := div64_zero
theorem divAny : DivAny := div64_any
theorem ret_ib {k : IntKind} {a b : Int} {c d : Bool} (h : a = b) (h' : c = d) : Ending.returned (.tuple #[.int k a, .bool c]) = .returned (.tuple #[.int k b, .bool d]) := by rw [h, h']
theorem ten7 : ((10000000 : Nat) : Int) = 10000000 := by omega
theorem mul_small (M : Nat) (hM : M * 10000000 < 18446744073709551616) (w : World) :
    Calls Yba.prog 18 #[.int .u64 M, .int .u64 10000000] w fun e w' => e = .returned (.tuple #[.int .u64 0, .int .u64 ((M * 10000000 : Nat) : Int)]) ∧ w' = w := by
  have h := mul64_any M 10000000 (by omega) (by omega) w
  rw [ten7, Nat.div_eq_of_lt hM, Nat.mod_eq_of_lt hM] at h
  exact h
theorem mul_big (M : Nat) (hM0 : M < 18446744073709551616) (hM : 18446744073709551616 ≤ M * 10000000) (w : World) :
    Calls Yba.prog 18 #[.int .u64 M, .int .u64 10000000] w fun e w' => ∃ H L : Nat, 0 < H ∧ H < 18446744073709551616 ∧ L < 18446744073709551616 ∧ e = .returned (.tuple #[.int .u64 H, .int .u64 L]) ∧ w' = w := by
  have h := mul64_any M 10000000 (by omega) (by omega) w
  rw [ten7] at h
  refine h.mono ?_
  rintro e w' ⟨rfl, rfl⟩
  exact ⟨_, _, by omega, by omega, Nat.mod_lt _ (by omega), rfl, rfl⟩
theorem mag_up {a b : Int} (h : a < b) (ha : -9223372036854775808 ≤ a) (hb : b ≤ 9223372036854775807) : IntKind.u64.wrap (IntKind.u64.wrap b - IntKind.u64.wrap a) = ((b - a).toNat : Int) := by
  rw [IntKind.wrap_u64, IntKind.wrap_u64, IntKind.wrap_u64]; omega
theorem big_up {a b : Int} {X : Nat} (h : a < b) (hP : X ≤ (a - b).natAbs * 10000000) : X ≤ (b - a).toNat * 10000000 := by
  have : (a - b).natAbs = (b - a).toNat := by omega
  rw [← this]; exact hP
theorem big_down {a b : Int} {X : Nat} (h : ¬ a < b) (hP : X ≤ (a - b).natAbs * 10000000) : X ≤ (a - b).toNat * 10000000 := by
  have : (a - b).natAbs = (a - b).toNat := by omega
  rw [← this]; exact hP
theorem mag_down {a b : Int} (h : ¬ a < b) (hb : -9223372036854775808 ≤ b) (ha : a ≤ 9223372036854775807) : IntKind.u64.wrap (IntKind.u64.wrap a - IntKind.u64.wrap b) = ((a - b).toNat : Int) := by
  rw [IntKind.wrap_u64, IntKind.wrap_u64, IntKind.wrap_u64]; omega

set_option maxHeartbeats 1000000 in
theorem scale_down (s19 : DivZero) (a b : Int) (d : Nat) (w : World) (ha : -9223372036854775808 ≤ a ∧ a ≤ 9223372036854775807) (hb : -9223372036854775808 ≤ b ∧ b ≤ 9223372036854775807) (hd : 0 < d) (hd2 : d < 18446744073709551616)
    (h : ¬ a < b) (hP : (a - b).toNat * 10000000 < 18446744073709551616) :
    Calls Yba.prog 17 #[.int .i64 a, .int .i64 b, .int .u64 10000000, .int .u64 d] w fun e w' =>
      e = .returned (.tuple #[.int .i64 (wrap64 (((a - b).toNat * 10000000 / d : Nat) : Int)), .bool (decide ((((a - b).toNat * 10000000 / d : Nat) : Int) ≤ 9223372036854775807))]) ∧ ∃ k, w' = w.drewN k := by
  have hm := mag_down h hb.1 ha.2
  have H19 := s19 ((a - b).toNat * 10000000) d hd hP hd2
  have H18 := mul_small (a - b).toNat hP
  have HM : Hid (∀ w : World, Calls Yba.prog 18 #[.int .u64 ((a - b).toNat : Int), .int .u64 10000000] w fun e w' => e = .returned (.tuple #[.int .u64 0, .int .u64 (((a - b).toNat * 10000000 : Nat) : Int)]) ∧ w' = w) := H18
  have HD : Hid (∀ w : World, Calls Yba.prog 19 #[.int .u64 0, .int .u64 (((a - b).toNat * 10000000 : Nat) : Int), .int .u64 d] w fun e w' => e = .returned (.tuple #[.int .u64 (((a - b).toNat * 10000000 / d : Nat) : Int), .int .u64 (((a - b).toNat * 10000000 % d : Nat) : Int)]) ∧ ∃ k, w' = w.drewN k) := H19
  have HMg : Hid (IntKind.u64.wrap (IntKind.u64.wrap a - IntKind.u64.wrap b) = ((a - b).toNat : Int)) := hm
  have hdn : ¬ (d : Int) ≤ 0 := by omega
  clear hm H19 H18 hP
  go_enter Yba.func17, Yba.ntmps17
  go_wp2_with fail
  rw [HMg.out]
  refine (HM.out _).mono ?_
  rintro e w1 ⟨rfl, rfl⟩
  generalize hQ : (a - b).toNat * 10000000 / d = Q at *
  have HQ : Hid ((a - b).toNat * 10000000 / d = Q) := hQ
  clear hQ
  generalize (a - b).toNat * 10000000 % d = R at *
  generalize hPP : (a - b).toNat * 10000000 = P at *
  have HP : Hid ((a - b).toNat * 10000000 = P) := hPP
  clear hPP
  go_wp2_with fail
  refine (HD.out _).mono ?_
  rintro e w2 ⟨rfl, k, rfl⟩
  go_wp2
  go_ret2
  exact ⟨ret_ib (by rw [HP.out, HQ.out]) (by rw [HP.out, HQ.out]), k, rfl⟩

/-- the quotient, away from zero. -/
def ceilQ (P d : Nat) : Nat := if P % d = 0 then P / d else P / d + 1

set_option maxHeartbeats 1000000 in
theorem scale_up (s19 : DivZero) (a b : Int) (d : Nat) (w : World) (ha : -9223372036854775808 ≤ a ∧ a ≤ 9223372036854775807) (hb : -9223372036854775808 ≤ b ∧ b ≤ 9223372036854775807) (hd : 0 < d) (hd2 : d < 18446744073709551616)
    (h : a < b) (hP : (b - a).toNat * 10000000 < 18446744073709551615) :
    Calls Yba.prog 17 #[.int .i64 a, .int .i64 b, .int .u64 10000000, .int .u64 d] w fun e w' =>
      e = .returned (.tuple #[.int .i64 (wrap64 (IntKind.u64.wrap (-((ceilQ ((b - a).toNat * 10000000) d : Nat) : Int)))), .bool (decide ((ceilQ ((b - a).toNat * 10000000) d : Int) ≤ 9223372036854775808))]) ∧ ∃ k, w' = w.drewN k := by
  have hm := mag_up h ha.1 hb.2
  have H19 := s19 ((b - a).toNat * 10000000) d hd (by omega) hd2
  have H18 := mul_small (b - a).toNat (by omega)
  have HM : Hid (∀ w : World, Calls Yba.prog 18 #[.int .u64 ((b - a).toNat : Int), .int .u64 10000000] w fun e w' => e = .returned (.tuple #[.int .u64 0, .int .u64 (((b - a).toNat * 10000000 : Nat) : Int)]) ∧ w' = w) := H18
  have HD : Hid (∀ w : World, Calls Yba.prog 19 #[.int .u64 0, .int .u64 (((b - a).toNat * 10000000 : Nat) : Int), .int .u64 d] w fun e w' => e = .returned (.tuple #[.int .u64 (((b - a).toNat * 10000000 / d : Nat) : Int), .int .u64 (((b - a).toNat * 10000000 % d : Nat) : Int)]) ∧ ∃ k, w' = w.drewN k) := H19
  have HMg : Hid (IntKind.u64.wrap (IntKind.u64.wrap b - IntKind.u64.wrap a) = ((b - a).toNat : Int)) := hm
  have hdn : ¬ (d : Int) ≤ 0 := by omega
  have hq1 : (b - a).toNat * 10000000 / d ≤ (b - a).toNat * 10000000 := Nat.div_le_self _ _
  have hqz : (b - a).toNat * 10000000 % d = 0 → 1 ≤ (b - a).toNat * 10000000 / d := by
    intro hz
    have := Nat.div_add_mod ((b - a).toNat * 10000000) d
    rcases Nat.eq_zero_or_pos ((b - a).toNat * 10000000 / d) with h0 | h0
    · rw [h0, hz] at this; simp at this; omega
    · exact h0
  clear hm H19 H18
  go_enter Yba.func17, Yba.ntmps17
  go_wp2_with fail
  rw [HMg.out]
  refine (HM.out _).mono ?_
  rintro e w1 ⟨rfl, rfl⟩
  generalize hQ : (b - a).toNat * 10000000 / d = Q at *
  generalize hR : (b - a).toNat * 10000000 % d = R at *
  have HQ : Hid (ceilQ ((b - a).toNat * 10000000) d = if R = 0 then Q else Q + 1) := by show _ = _; unfold ceilQ; rw [hQ, hR]
  clear hQ hR
  generalize hPP : (b - a).toNat * 10000000 = P at *
  have HP : Hid ((b - a).toNat * 10000000 = P) := hPP
  clear hPP
  go_wp2_with fail
  refine (HD.out _).mono ?_
  rintro e w2 ⟨rfl, k, rfl⟩
  by_cases hR0 : R = 0
  · have hz := hqz hR0
    have e1 : ((R : Int) != 0) = false := by simp; omega
    have e2 : ((Q : Int) != 0) = true := by simp; omega
    have HE : Hid (ceilQ P d = Q) := by show _ = _; rw [HQ.out, if_pos hR0]
    clear hqz hR0
    go_wp2
    go_ret2
    exact ⟨ret_ib (by rw [HP.out, HE.out]) (by rw [HP.out, HE.out]), k, rfl⟩
  · have e1 : ((R : Int) != 0) = true := by simp; omega
    have e3 : IntKind.u64.wrap ((Q : Int) + 1) = (Q : Int) + 1 := by rw [IntKind.wrap_u64]; omega
    have e2 : (((Q : Int) + 1) != 0) = true := by simp; omega
    have HE : Hid (ceilQ P d = Q + 1) := by show _ = _; rw [HQ.out, if_neg hR0]
    clear hqz hR0
    go_wp2
    go_ret2
    exact ⟨ret_ib (by rw [HP.out, HE.out]; rfl) (by rw [HP.out, HE.out]; rfl), k, rfl⟩

set_option maxHeartbeats 1000000 in
theorem scale_big (s20 : DivAny) (a b : Int) (d : Nat) (w : World) (ha : -9223372036854775808 ≤ a ∧ a ≤ 9223372036854775807) (hb : -9223372036854775808 ≤ b ∧ b ≤ 9223372036854775807) (hd : 0 < d) (hd2 : d < 18446744073709551616)
    (hP : 18446744073709551616 ≤ (a - b).natAbs * 10000000) :
    Calls Yba.prog 17 #[.int .i64 a, .int .i64 b, .int .u64 10000000, .int .u64 d] w fun e w' => ∃ (q : Int) (ok : Bool), e = .returned (.tuple #[.int .i64 q, .bool ok]) ∧ ∃ k, w' = w.drewN k := by
  by_cases h : a < b
  · have HMg : Hid (IntKind.u64.wrap (IntKind.u64.wrap b - IntKind.u64.wrap a) = ((b - a).toNat : Int)) := mag_up h ha.1 hb.2
    have hM1 : (b - a).toNat < 18446744073709551616 := by omega
    have hM2 : 18446744073709551616 ≤ (b - a).toNat * 10000000 := big_up h hP
    have HM0 := mul_big (b - a).toNat hM1 hM2
    have HM : Hid (∀ w : World, Calls Yba.prog 18 #[.int .u64 ((b - a).toNat : Int), .int .u64 10000000] w fun e w' => ∃ H L : Nat, 0 < H ∧ H < 18446744073709551616 ∧ L < 18446744073709551616 ∧ e = .returned (.tuple #[.int .u64 H, .int .u64 L]) ∧ w' = w) := HM0
    clear hP HM0 hM1 hM2
    go_enter Yba.func17, Yba.ntmps17
    go_wp2_with fail
    rw [HMg.out]
    refine (HM.out _).mono ?_
    rintro e w1 ⟨H, L, hH0, hH1, hL, rfl, rfl⟩
    by_cases hHd : H < d
    · go_wp2_with fail
      refine (s20 H L d hH0 hHd hL hd2 _).mono ?_
      rintro e w2 ⟨q, r, rfl, k, rfl⟩
      go_wp2
      all_goals go_ret2
      all_goals exact ⟨_, _, rfl, k, rfl⟩
    · go_wp2
      go_ret2
      exact ⟨_, _, rfl, 0, rfl⟩
  · have HMg : Hid (IntKind.u64.wrap (IntKind.u64.wrap a - IntKind.u64.wrap b) = ((a - b).toNat : Int)) := mag_down h hb.1 ha.2
    have hM1 : (a - b).toNat < 18446744073709551616 := by omega
    have hM2 : 18446744073709551616 ≤ (a - b).toNat * 10000000 := big_down h hP
    have HM0 := mul_big (a - b).toNat hM1 hM2
    have HM : Hid (∀ w : World, Calls Yba.prog 18 #[.int .u64 ((a - b).toNat : Int), .int .u64 10000000] w fun e w' => ∃ H L : Nat, 0 < H ∧ H < 18446744073709551616 ∧ L < 18446744073709551616 ∧ e = .returned (.tuple #[.int .u64 H, .int .u64 L]) ∧ w' = w) := HM0
    clear hP HM0 hM1 hM2
    go_enter Yba.func17, Yba.ntmps17
    go_wp2_with fail
    rw [HMg.out]
    refine (HM.out _).mono ?_
    rintro e w1 ⟨H, L, hH0, hH1, hL, rfl, rfl⟩
    by_cases hHd : H < d
    · go_wp2_with fail
      refine (s20 H L d hH0 hHd hL hd2 _).mono ?_
      rintro e w2 ⟨q, r, rfl, k, rfl⟩
      go_wp2
      all_goals go_ret2
      all_goals exact ⟨_, _, rfl, k, rfl⟩
    · go_wp2
      go_ret2
      exact ⟨_, _, rfl, 0, rfl⟩
end Go.Proofs.Ybulkbojs
