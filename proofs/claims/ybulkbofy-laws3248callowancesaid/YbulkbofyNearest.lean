import Derived.Test.YbulkbofyFloat
namespace Go.Proofs.Ybulkbofy
open Ieee

theorem lp_eq : double.leastPlace = -1074 := by decide
theorem bi_eq : double.binade = 2 ^ 52 := rfl
theorem ir_eq : double.infRung = 2047 * 2 ^ 52 := rfl
theorem sw_eq : double.signWeight = 2 ^ 63 := rfl
theorem fb_eq : double.fractionBits = 52 := rfl

/-- The word is a number that is not negative, v times the least place. -/
def Val (x v : Nat) : Prop := ∃ m e : Nat, double.read x = .number false m (-1074 + e) ∧ m * 2 ^ e = v
/-- v times the least place is a number of the format. -/
def Fits (v : Nat) : Prop := ∃ m e : Nat, m < 2 ^ 53 ∧ e ≤ 2045 ∧ v = m * 2 ^ e

theorem read_rung (r : Nat) (h : r < 2047 * 2 ^ 52) :
    double.read r = if r < 2 ^ 52 then .number false r (-1074) else .number false (2 ^ 52 + r % 2 ^ 52) (-1074 + ((r / 2 ^ 52 - 1 : Nat) : Int)) := by
  have h1 : r / 2 ^ 63 % 2 = 0 := by rw [Nat.div_eq_of_lt (by omega)]
  have h2 : r % 2 ^ 63 = r := Nat.mod_eq_of_lt (by omega)
  unfold Format.read
  simp only [sw_eq, bi_eq, ir_eq, lp_eq, h1, h2]
  by_cases hr : r < 2 ^ 52
  · rw [if_pos hr, if_pos hr]; rfl
  · rw [if_neg hr, if_neg hr, if_pos h]; rfl

/-- a word made of a place and a kept significand reads as those. -/
theorem read_made (e k : Nat) (he : e ≤ 2045) (hk : k < 2 ^ 53) (hn : e ≠ 0 → 2 ^ 52 ≤ k) :
    ∃ m e' : Nat, double.read (e * 2 ^ 52 + k) = .number false m (-1074 + (e' : Int)) ∧ m * 2 ^ e' = k * 2 ^ e := by
  rw [read_rung _ (by omega)]
  by_cases h : e * 2 ^ 52 + k < 2 ^ 52
  · rw [if_pos h]
    have he0 : e = 0 := by omega
    subst he0
    exact ⟨k, 0, by simp, rfl⟩
  · rw [if_neg h]
    have hk2 : 2 ^ 52 ≤ k := by
      by_cases h0 : e = 0
      · subst h0; omega
      · exact hn h0
    refine ⟨k, e, ?_, rfl⟩
    have a1 : (e * 2 ^ 52 + k) % 2 ^ 52 = k - 2 ^ 52 := by omega
    have a2 : (e * 2 ^ 52 + k) / 2 ^ 52 - 1 = e := by omega
    have a3 : 2 ^ 52 + (k - 2 ^ 52) = k := by omega
    rw [a1, a2, a3]

theorem cut_zero (n : Nat) : Toward.even.cut false n 0 = n := by
  unfold Toward.cut
  simp [Nat.mod_one]
theorem cut_div (q d : Nat) (hq : q ≠ 0) : Toward.even.cut false (q * 2 ^ d) d = q := by
  unfold Toward.cut
  have hlog : d ≤ (q * 2 ^ d).log2 := by
    rw [Nat.le_log2 (by have := Nat.two_pow_pos d; exact Nat.mul_ne_zero hq (by omega))]
    exact Nat.le_mul_of_pos_left _ (by omega)
  have hm : min d ((q * 2 ^ d).log2 + 2) = d := by omega
  have hp := Nat.two_pow_pos d
  simp only [hm, Nat.one_shiftLeft, Nat.mul_mod_left, Nat.mul_div_cancel q hp]
  have : ¬ (2 ^ d < 2 * 0) := by omega
  have h2 : (2 ^ d == 2 * 0) = false := by simp
  simp [h2]

theorem log2_pow {n : Nat} (h : n ≠ 0) (k : Nat) : (n * 2 ^ k).log2 = n.log2 + k := by
  induction k with
  | zero => simp
  | succ k ih =>
    have h2 : n * 2 ^ k ≠ 0 := Nat.mul_ne_zero h (Nat.pos_iff_ne_zero.1 (Nat.two_pow_pos _))
    rw [Nat.pow_succ, ← Nat.mul_assoc, Nat.mul_comm _ 2, Nat.log2_two_mul h2, ih]; omega

theorem nearest_exact (mag : Nat) (place : Int) (b m0 e0 : Nat) (hm : mag ≠ 0) (h0 : m0 < 2 ^ 53) (he : e0 ≤ 2045)
    (hb : -(b : Int) ≤ place) (hb2 : 1074 ≤ b) (hv : mag * 2 ^ (place + b).toNat = m0 * 2 ^ (e0 + b - 1074)) :
    Val (double.nearest false mag place) (m0 * 2 ^ e0) := by
  have hm0 : m0 ≠ 0 := by
    rintro rfl
    rw [Nat.zero_mul] at hv
    have := Nat.mul_ne_zero hm (Nat.pos_iff_ne_zero.1 (Nat.two_pow_pos (place + b).toNat))
    exact this hv
  -- logs
  have hlog : mag.log2 + (place + b).toNat = m0.log2 + (e0 + b - 1074) := by
    rw [← log2_pow hm, ← log2_pow hm0, hv]
  have hl0 : m0.log2 ≤ 52 := by
    have := (Nat.log2_lt hm0).2 h0
    omega
  unfold Format.nearest
  rw [if_neg hm]
  simp only [lp_eq, bi_eq, ir_eq, fb_eq]
  -- e: the place above the least
  obtain ⟨e, hlast⟩ : ∃ e : Nat, max (place + (mag.log2 : Int) - (52 : Nat)) (-1074) = -1074 + (e : Int) := ⟨(max (place + (mag.log2 : Int) - (52 : Nat)) (-1074) + 1074).toNat, by omega⟩
  rw [hlast]
  have hle : e ≤ e0 := by omega
  have hkept : Toward.even.cut false (mag <<< (place - (-1074 + (e : Int))).toNat) (-1074 + (e : Int) - place).toNat = m0 * 2 ^ (e0 - e) := by
    by_cases hc : -1074 + (e : Int) ≤ place
    · rw [show (-1074 + (e : Int) - place).toNat = 0 by omega, cut_zero, Nat.shiftLeft_eq]
      have hp := Nat.two_pow_pos (e + b - 1074)
      refine Nat.eq_of_mul_eq_mul_right hp ?_
      rw [Nat.mul_assoc, Nat.mul_assoc, ← Nat.pow_add, ← Nat.pow_add]
      rw [show (place - (-1074 + (e : Int))).toNat + (e + b - 1074) = (place + b).toNat by omega, hv, show e0 - e + (e + b - 1074) = e0 + b - 1074 by omega]
    · rw [show (place - (-1074 + (e : Int))).toNat = 0 by omega, Nat.shiftLeft_zero]
      have hmag : mag = m0 * 2 ^ (e0 - e) * 2 ^ (-1074 + (e : Int) - place).toNat := by
        have hp := Nat.two_pow_pos (place + b).toNat
        refine Nat.eq_of_mul_eq_mul_right hp ?_
        rw [hv, Nat.mul_assoc, Nat.mul_assoc, ← Nat.pow_add, ← Nat.pow_add, show e0 - e + ((-1074 + (e : Int) - place).toNat + (place + (b : Int)).toNat) = e0 + b - 1074 by omega]
      rw [hmag]
      exact cut_div _ _ (Nat.mul_ne_zero hm0 (Nat.pos_iff_ne_zero.1 (Nat.two_pow_pos _)))
  rw [hkept]
  have hkl : (m0 * 2 ^ (e0 - e)).log2 = m0.log2 + (e0 - e) := log2_pow hm0 _
  have hk0 : m0 * 2 ^ (e0 - e) ≠ 0 := Nat.mul_ne_zero hm0 (Nat.pos_iff_ne_zero.1 (Nat.two_pow_pos _))
  have hk : m0 * 2 ^ (e0 - e) < 2 ^ 53 := (Nat.log2_lt hk0).1 (by omega)
  have hn : e ≠ 0 → 2 ^ 52 ≤ m0 * 2 ^ (e0 - e) := fun h => (Nat.le_log2 hk0).1 (by omega)
  have hval : m0 * 2 ^ (e0 - e) * 2 ^ e = m0 * 2 ^ e0 := by
    rw [Nat.mul_assoc, ← Nat.pow_add, show e0 - e + e = e0 by omega]
  generalize m0 * 2 ^ (e0 - e) = k at *
  rw [show (-1074 + (e : Int) - -1074).toNat = e by omega]
  rw [Nat.min_eq_left (by omega)]
  obtain ⟨m, e', h1, h2⟩ := read_made e k (by omega) hk hn
  exact ⟨m, e', h1, by rw [h2, hval]⟩

theorem val_zero : Val 0 0 := ⟨0, 0, by decide +kernel, rfl⟩
theorem nearest_fits (mag : Nat) (place : Int) (b v : Nat) (hf : Fits v) (hb : -(b : Int) ≤ place) (hb2 : 1074 ≤ b)
    (hv : mag * 2 ^ (place + b).toNat = v * 2 ^ (b - 1074)) : Val (double.nearest false mag place) v := by
  obtain ⟨m0, e0, h0, he, rfl⟩ := hf
  by_cases hm : mag = 0
  · subst hm
    rw [Nat.zero_mul] at hv
    have h : m0 * 2 ^ e0 = 0 := by
      rcases Nat.mul_eq_zero.1 hv.symm with h | h
      · exact h
      · exact absurd h (Nat.pos_iff_ne_zero.1 (Nat.two_pow_pos _))
    rw [h]
    have : double.nearest false 0 place = 0 := by unfold Format.nearest; rfl
    rw [this]; exact val_zero
  · refine nearest_exact mag place b m0 e0 hm h0 he hb hb2 ?_
    rw [hv, Nat.mul_assoc, ← Nat.pow_add, show e0 + (b - 1074) = e0 + b - 1074 by omega]

/-- the place of 1 above the least. -/
def C : Nat := 1074
theorem C_eq : C = 1074 := rfl

theorem val_ofNat (k : Nat) (hk : k < 2 ^ 53) : Val (floatOfInt .f64 (k : Int)) (k * 2 ^ C) := by
  have : floatOfInt .f64 (k : Int) = double.nearest false k 0 := by
    show double.nearest (decide ((k : Int) < 0)) (k : Int).natAbs 0 = _
    rw [show decide ((k : Int) < 0) = false by simp, Int.natAbs_natCast]
  rw [this]
  refine nearest_fits k 0 1074 _ ⟨k, C, hk, by rw [C_eq]; omega, rfl⟩ (by omega) (by omega) ?_
  rw [show (0 + ((1074 : Nat) : Int)).toNat = C from rfl, Nat.sub_self, Nat.pow_zero, Nat.mul_one]

theorem pow_join (a b c : Nat) (h : a + b = c + 1) : 2 ^ a * 2 ^ b = 2 * 2 ^ c := by
  rw [← Nat.pow_add, h, Nat.pow_succ']
theorem val_two : Val 4611686018427387904 (2 * 2 ^ C) :=
  ⟨2 ^ 52, 1023, by decide +kernel, pow_join 52 1023 C rfl⟩

theorem val_mul {x y v1 v2 v : Nat} (h1 : Val x v1) (h2 : Val y v2) (hf : Fits v) (hv : v1 * v2 = v * 2 ^ C) :
    ∃ r, floatBits .mul .f64 x y = some r ∧ Val r v := by
  obtain ⟨m1, e1, hr1, rfl⟩ := h1
  obtain ⟨m2, e2, hr2, rfl⟩ := h2
  refine ⟨double.nearest false (m1 * m2) (-1074 + (e1 : Int) + (-1074 + (e2 : Int))), ?_, ?_⟩
  · show ((double.read x).product (double.read y)).map double.write = _
    rw [hr1, hr2]; rfl
  · refine nearest_fits _ _ 2148 v hf (by omega) (by omega) ?_
    rw [show (-1074 + (e1 : Int) + (-1074 + (e2 : Int)) + (2148 : Nat)).toNat = e1 + e2 by omega, show 2148 - 1074 = C from rfl, ← hv, Nat.pow_add]
    rw [Nat.mul_assoc, Nat.mul_assoc, Nat.mul_left_comm m2]

theorem val_sub_zero {x v : Nat} (h : Val x v) (hf : Fits v) : ∃ r, floatBits .sub .f64 x 0 = some r ∧ Val r v := by
  obtain ⟨m, e, hr, rfl⟩ := h
  refine ⟨double.nearest false (m * 2 ^ e) (-1074), ?_, nearest_fits _ _ 1074 _ hf (by omega) (by omega) (by rw [show (-1074 + ((1074 : Nat) : Int)).toNat = 0 from rfl, Nat.sub_self])⟩
  show ((double.read x).sum (double.read 0).opposite).map double.write = _
  have e0 : double.read 0 = .number false 0 (-1074) := by decide +kernel
  rw [hr, e0]
  simp only [Datum.opposite, Datum.sum, signed, Option.map_some, Nat.shiftLeft_eq]
  rw [show min (-1074 + (e : Int)) (-1074) = -1074 by omega, show (-1074 + (e : Int) - -1074).toNat = e by omega]
  generalize m * 2 ^ e = t
  have ht : ((t : Int) + -((0 * 2 ^ (-1074 - -1074 : Int).toNat : Nat) : Int)) = (t : Int) := by rw [Nat.zero_mul]; omega
  have hs : (if ((t : Int)) = 0 then false && !false else decide ((t : Int) < 0)) = false := by
    split
    · rfl
    · simp
  simp only [Bool.false_eq_true, ↓reduceIte, Bool.not_false]
  rw [ht]
  simp only [Bool.not_false] at hs
  rw [hs]
  simp only [Format.write, Int.natAbs_natCast]

theorem compare_scale (a b c : Nat) (hc : 0 < c) : compare (a : Int) (b : Int) = compare (a * c) (b * c) := by
  rcases Nat.lt_trichotomy a b with h | h | h
  · rw [Int.compare_eq_lt.2 (by omega), Nat.compare_eq_lt.2 ((Nat.mul_lt_mul_right hc).2 h)]
  · subst h; rw [Int.compare_eq_eq.2 rfl, Nat.compare_eq_eq.2 rfl]
  · rw [Int.compare_eq_gt.2 (by omega), Nat.compare_eq_gt.2 ((Nat.mul_lt_mul_right hc).2 h)]

theorem val_order {x y v1 v2 : Nat} (h1 : Val x v1) (h2 : Val y v2) : FloatKind.f64.format.order x y = some (compare v1 v2) := by
  obtain ⟨m1, e1, hr1, rfl⟩ := h1
  obtain ⟨m2, e2, hr2, rfl⟩ := h2
  show (double.read x).order (double.read y) = _
  rw [hr1, hr2]
  simp only [Datum.order, signed, Nat.shiftLeft_eq]
  rw [if_neg (by decide), if_neg (by decide)]
  rw [show (-1074 + (e1 : Int) - min (-1074 + (e1 : Int)) (-1074 + (e2 : Int))).toNat = e1 - min e1 e2 by omega,
    show (-1074 + (e2 : Int) - min (-1074 + (e1 : Int)) (-1074 + (e2 : Int))).toNat = e2 - min e1 e2 by omega]
  rw [compare_scale _ _ (2 ^ min e1 e2) (Nat.two_pow_pos _), Nat.mul_assoc, Nat.mul_assoc, ← Nat.pow_add, ← Nat.pow_add,
    show e1 - min e1 e2 + min e1 e2 = e1 by omega, show e2 - min e1 e2 + min e1 e2 = e2 by omega]

/-- two numbers one unit apart at one place, or the least of a binade and the greatest of the one below. -/
theorem sub_unit {x y m : Nat} {p : Int} (hx : double.read x = .number false (m + 1) p) (hy : double.read y = .number false m p) :
    floatBits .sub .f64 x y = some (double.nearest false 1 p) := by
  show ((double.read x).sum (double.read y).opposite).map double.write = _
  rw [hx, hy]
  simp only [Datum.opposite, Datum.sum, signed, Option.map_some, Nat.shiftLeft_eq]
  rw [Int.min_self, Int.sub_self]
  simp only [Int.toNat_zero, Nat.pow_zero, Nat.mul_one]
  simp only [Bool.false_eq_true, ↓reduceIte, Bool.not_false]
  rw [show (((m + 1 : Nat) : Int) + -(m : Int)) = 1 by omega]
  simp [Format.write]
theorem sub_edge {x y m : Nat} {p : Int} (hx : double.read x = .number false (m + 1) (p + 1)) (hy : double.read y = .number false (2 * m + 1) p) :
    floatBits .sub .f64 x y = some (double.nearest false 1 p) := by
  show ((double.read x).sum (double.read y).opposite).map double.write = _
  rw [hx, hy]
  simp only [Datum.opposite, Datum.sum, signed, Option.map_some, Nat.shiftLeft_eq]
  rw [show min (p + 1) p = p by omega, Int.sub_self, show (p + 1 - p).toNat = 1 by omega]
  simp only [Int.toNat_zero, Nat.pow_zero, Nat.mul_one, Nat.pow_one]
  simp only [Bool.false_eq_true, ↓reduceIte, Bool.not_false]
  rw [show ((((m + 1) * 2 : Nat) : Int) + -((2 * m + 1 : Nat) : Int)) = 1 by omega]
  simp [Format.write]

theorem val_unit (e : Nat) (he : e ≤ 2045) : Val (double.nearest false 1 (-1074 + (e : Int))) (2 ^ e) := by
  refine nearest_fits 1 _ 1074 _ ⟨1, e, by decide, he, by rw [Nat.one_mul]⟩ (by omega) (by omega) ?_
  rw [show (-1074 + (e : Int) + ((1074 : Nat) : Int)).toNat = e by omega, Nat.sub_self, Nat.pow_zero, Nat.one_mul, Nat.mul_one]

/-- the difference to the next float towards zero is a power of two. -/
theorem val_gap (a : Nat) (h0 : 0 < a) (h1 : a < 2047 * 2 ^ 52) : ∃ r e, e ≤ 2045 ∧ floatBits .sub .f64 a (a - 1) = some r ∧ Val r (2 ^ e) := by
  have ra := read_rung a h1
  have rp := read_rung (a - 1) (by omega)
  by_cases c1 : a < 2 ^ 52
  · rw [if_pos c1] at ra
    rw [if_pos (by omega)] at rp
    refine ⟨_, 0, by omega, sub_unit (m := a - 1) (p := -1074) (by rw [ra, show a - 1 + 1 = a by omega]) rp, val_unit 0 (by omega)⟩
  · rw [if_neg c1] at ra
    by_cases c2 : a = 2 ^ 52
    · rw [if_pos (by omega)] at rp
      subst c2
      exact ⟨_, 0, by omega, sub_unit (m := 2 ^ 52 - 1) (p := -1074) (by rw [ra]; rfl) rp, val_unit 0 (by omega)⟩
    · rw [if_neg (by omega)] at rp
      by_cases c3 : a % 2 ^ 52 = 0
      · -- the least of a binade
        obtain ⟨e, he⟩ : ∃ e : Nat, a / 2 ^ 52 - 1 = e + 1 := ⟨a / 2 ^ 52 - 2, by omega⟩
        refine ⟨_, e, by omega, sub_edge (m := 2 ^ 52 - 1) (p := -1074 + (e : Int)) ?_ ?_, val_unit e (by omega)⟩
        · rw [ra, c3, he]
          simp only [Datum.number.injEq, true_and]
          omega
        · rw [rp, show (a - 1) % 2 ^ 52 = 2 ^ 52 - 1 by omega, show (a - 1) / 2 ^ 52 - 1 = e by omega]
      · refine ⟨_, a / 2 ^ 52 - 1, by omega, sub_unit (m := 2 ^ 52 + (a - 1) % 2 ^ 52) (p := -1074 + ((a / 2 ^ 52 - 1 : Nat) : Int)) ?_ ?_, val_unit _ (by omega)⟩
        · rw [ra, show 2 ^ 52 + a % 2 ^ 52 = 2 ^ 52 + (a - 1) % 2 ^ 52 + 1 by omega]
        · rw [rp, show (a - 1) / 2 ^ 52 - 1 = a / 2 ^ 52 - 1 by omega]
end Go.Proofs.Ybulkbofy
