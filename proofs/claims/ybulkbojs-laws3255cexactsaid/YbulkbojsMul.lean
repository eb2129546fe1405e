import Derived.Test.YbulkbojsLead64
import Derived.WalkKit
import Derived.WalkSpells
import Derived.WalkLawsBesides
import Derived.Lib.Mul64
import Derived.Laws.Bits64b
import Derived.Deep.QuietTactic
import Derived.BigQuiet
import Derived.Deep.DeepCutAuto
namespace Go.Proofs.Ybulkbojs
open Go.RowKit
set_option linter.unusedVariables false

theorem low32 (a : Nat) (ha : a < 18446744073709551616) : bits .and .u64 (a : Int) 4294967295 = ((a % 4294967296 : Nat) : Int) := by
  have h := bits_and_u64_nat a 4294967295 ha (by omega)
  rw [show a &&& 4294967295 = a % 4294967296 from Nat.and_two_pow_sub_one_eq_mod a 32] at h
  exact h
theorem high32 (a : Nat) : (a : Int) / 4294967296 = ((a / 4294967296 : Nat) : Int) := by omega
theorem castMul (a b : Nat) : (a : Int) * (b : Int) = ((a * b : Nat) : Int) := (Int.natCast_mul a b).symm
theorem castAdd (a b : Nat) : (a : Int) + (b : Int) = ((a + b : Nat) : Int) := (Int.natCast_add a b).symm
theorem wrapLt (a : Nat) (ha : a < 18446744073709551616) : IntKind.u64.wrap (a : Int) = (a : Int) := by rw [IntKind.wrap_u64]; omega
theorem wrapMod (a : Nat) : IntKind.u64.wrap (a : Int) = ((a % 18446744073709551616 : Nat) : Int) := by rw [IntKind.wrap_u64]; omega

set_option maxHeartbeats 1000000 in
theorem mul64_any (x y : Nat) (hx : x < 18446744073709551616) (hy : y < 18446744073709551616) (w : World) :
    Calls Yba.prog 18 #[.int .u64 x, .int .u64 y] w fun e w' => e = .returned (.tuple #[.int .u64 ((x * y / 18446744073709551616 : Nat) : Int), .int .u64 ((x * y % 18446744073709551616 : Nat) : Int)]) ∧ w' = w := by
  obtain ⟨b1, b2, b3, hhi⟩ := Lib.mul64_hi x y hx hy
  have q1 := Lib.half_mul_le (a := x / 4294967296) (b := y / 4294967296) (by omega) (by omega)
  have q2 := Lib.half_mul_le (a := x / 4294967296) (b := y % 4294967296) (by omega) (by omega)
  have q3 := Lib.half_mul_le (a := x % 4294967296) (b := y / 4294967296) (by omega) (by omega)
  have p1 : x / 4294967296 * (y / 4294967296) < 18446744073709551616 := by omega
  have p2 : x / 4294967296 * (y % 4294967296) < 18446744073709551616 := by omega
  have p3 : x % 4294967296 * (y / 4294967296) < 18446744073709551616 := by omega
  have p4 : x / 4294967296 * (y / 4294967296) + (x / 4294967296 * (y % 4294967296) + x % 4294967296 * (y % 4294967296) / 4294967296) / 4294967296 < 18446744073709551616 := by omega
  have p5 : x / 4294967296 * (y / 4294967296) + (x / 4294967296 * (y % 4294967296) + x % 4294967296 * (y % 4294967296) / 4294967296) / 4294967296 + ((x / 4294967296 * (y % 4294967296) + x % 4294967296 * (y % 4294967296) / 4294967296) % 4294967296 + x % 4294967296 * (y / 4294967296)) / 4294967296 < 18446744073709551616 := by omega
  go_enter Yba.func18, Yba.ntmps18
  go_wp2
  simp only [low32 x hx, low32 y hy, high32, castMul, castAdd, wrapLt _ b1, wrapLt _ p2, wrapLt _ b2, low32 _ b2, wrapLt _ p3, wrapLt _ b3, wrapLt _ p1, wrapLt _ p4, wrapLt _ p5, wrapMod (x * y)]
  rw [hhi]
  go_ret2
  exact ⟨rfl, rfl⟩

theorem bitLen_bounds (x : Nat) : x ≠ 0 → x < 2 ^ 64 → 1 ≤ Lib.bitLen x ∧ 2 ^ (Lib.bitLen x - 1) ≤ x ∧ x < 2 ^ Lib.bitLen x := by
  induction x using Nat.strongRecOn with
  | _ x ih =>
    intro h0 h
    rw [Lib.bitLen_half x h0 h]
    by_cases h1 : x / 2 = 0
    · have e : x = 1 := by omega
      subst e
      have : Lib.bitLen (1 / 2) = 0 := by decide
      rw [this]; decide
    · obtain ⟨a, b, c⟩ := ih (x / 2) (by omega) h1 (by omega)
      refine ⟨by omega, ?_, ?_⟩
      · rw [show 1 + Lib.bitLen (x / 2) - 1 = (Lib.bitLen (x / 2) - 1) + 1 by omega, Nat.pow_succ]; omega
      · rw [Nat.add_comm 1, Nat.pow_succ]; omega

/-- y shifted so that its highest bit is set. -/
theorem shift_top (y : Nat) (h0 : y ≠ 0) (h : y < 2 ^ 64) : 2 ^ 63 ≤ y * 2 ^ (64 - Lib.bitLen y) ∧ y * 2 ^ (64 - Lib.bitLen y) < 2 ^ 64 := by
  obtain ⟨a, b, c⟩ := bitLen_bounds y h0 h
  have hl : Lib.bitLen y ≤ 64 := Lib.bitLen_le y 64 (by omega) (by omega)
  have hp := Nat.two_pow_pos (64 - Lib.bitLen y)
  constructor
  · have e : 2 ^ 63 = 2 ^ (Lib.bitLen y - 1) * 2 ^ (64 - Lib.bitLen y) := by rw [← Nat.pow_add]; congr 1; omega
    rw [e]; exact Nat.mul_le_mul_right _ b
  · have e : 2 ^ 64 = 2 ^ Lib.bitLen y * 2 ^ (64 - Lib.bitLen y) := by rw [← Nat.pow_add]; congr 1; omega
    rw [e]; exact (Nat.mul_lt_mul_right hp).2 c
end Go.Proofs.Ybulkbojs
