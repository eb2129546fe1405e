import Derived.Test.YbulkbofyRows
import Derived.WalkKit
import Derived.WalkSpells
import Derived.WalkLawsBesides
namespace Go.Proofs.Ybulkbofy
open Go.RowKit

/-- the bits stand for a NaN. -/
def IsNan (x : Nat) : Prop := (Ieee.double.read x).isNaN = true

theorem order_nan_left {x : Nat} (y : Nat) (h : IsNan x) : FloatKind.f64.format.order x y = none := by
  unfold IsNan at h
  show (Ieee.double.read x).order (Ieee.double.read y) = none
  cases e : Ieee.double.read x <;> simp_all [Ieee.Datum.isNaN, Ieee.Datum.order]
theorem order_nan_right {y : Nat} (x : Nat) (h : IsNan y) : FloatKind.f64.format.order x y = none := by
  unfold IsNan at h
  show (Ieee.double.read x).order (Ieee.double.read y) = none
  cases e : Ieee.double.read y <;> cases e' : Ieee.double.read x <;> simp_all [Ieee.Datum.isNaN, Ieee.Datum.order]
theorem order_self (x : Nat) (h : ¬ IsNan x) : FloatKind.f64.format.order x x = some .eq := by
  unfold IsNan at h
  show (Ieee.double.read x).order (Ieee.double.read x) = some .eq
  cases e : Ieee.double.read x <;> simp_all [Ieee.Datum.isNaN, Ieee.Datum.order]
theorem isNan_iff (x : Nat) : (FloatKind.f64.format.order x x != some Ordering.eq) = true ↔ IsNan x := by
  by_cases h : IsNan x
  · simp [order_nan_left x h, h]
  · simp [order_self x h, h]

theorem order_swap (x y : Nat) : FloatKind.f64.format.order y x = (FloatKind.f64.format.order x y).map Ordering.swap := by
  show (Ieee.double.read y).order (Ieee.double.read x) = ((Ieee.double.read x).order (Ieee.double.read y)).map Ordering.swap
  cases e : Ieee.double.read x <;> cases e' : Ieee.double.read y <;> simp [Ieee.Datum.order]
  · rw [← Int.compare_swap, Int.min_comm]
  · split <;> rfl
  · split <;> rfl
  · rw [← Nat.compare_swap]

theorem cut_nan (x y t : Nat) : IsNan ((Question.nanBits .f64 x y).cut t) := by
  unfold IsNan
  have e : (Question.nanBits .f64 x y).cut t = (t % 2) * 2 ^ 63 + 0x7ff0000000000000 + 1 + (t / 2) % (2 ^ 52 - 1) := rfl
  rw [e]
  have h1 : t % 2 < 2 := Nat.mod_lt _ (by omega)
  have h2 : (t / 2) % (2 ^ 52 - 1) < 2 ^ 52 - 1 := Nat.mod_lt _ (by decide)
  generalize t % 2 = a at *
  generalize (t / 2) % (2 ^ 52 - 1) = b at *
  have sw : Ieee.double.signWeight = 2 ^ 63 := rfl
  have bi : Ieee.double.binade = 2 ^ 52 := rfl
  have ir : Ieee.double.infRung = 0x7ff0000000000000 := rfl
  have m : (a * 2 ^ 63 + 0x7ff0000000000000 + 1 + b) % 2 ^ 63 = 0x7ff0000000000000 + 1 + b := by omega
  unfold Ieee.Format.read
  simp only [sw, bi, ir, m]
  rw [if_neg (by omega), if_neg (by omega), if_neg (by omega)]
  rfl

theorem bits_nan_left (op : BinOp) {x : Nat} (y : Nat) (h : IsNan x) (ho : op = .sub ∨ op = .mul) : floatBits op .f64 x y = none := by
  unfold IsNan at h
  rcases ho with rfl | rfl
  · show ((Ieee.double.read x).sum (Ieee.double.read y).opposite).map _ = none
    cases e : Ieee.double.read x <;> simp_all [Ieee.Datum.isNaN, Ieee.Datum.sum]
  · show ((Ieee.double.read x).product (Ieee.double.read y)).map _ = none
    cases e : Ieee.double.read x <;> simp_all [Ieee.Datum.isNaN, Ieee.Datum.product]
theorem bits_nan_right (op : BinOp) {y : Nat} (x : Nat) (h : IsNan y) (ho : op = .sub ∨ op = .mul) : floatBits op .f64 x y = none := by
  unfold IsNan at h
  rcases ho with rfl | rfl
  · show ((Ieee.double.read x).sum (Ieee.double.read y).opposite).map _ = none
    cases e : Ieee.double.read y <;> cases e' : Ieee.double.read x <;> simp_all [Ieee.Datum.isNaN, Ieee.Datum.sum, Ieee.Datum.opposite]
  · show ((Ieee.double.read x).product (Ieee.double.read y)).map _ = none
    cases e : Ieee.double.read y <;> cases e' : Ieee.double.read x <;> simp_all [Ieee.Datum.isNaN, Ieee.Datum.product]

/-- what the model hands back for a NaN: the tape's word, cut to a NaN's bits. -/
def nanOf (x y : Nat) (w : World) : Nat := (Question.nanBits .f64 x y).cut (w.tape w.drawn (.nanBits .f64 x y))
def fres (op : BinOp) (x y : Nat) (w : World) : Nat := (floatBits op .f64 x y).getD (nanOf x y w)
def fdr (op : BinOp) (x y : Nat) : Nat := if (floatBits op .f64 x y).isSome then 0 else 1

theorem run_sub (P : Program) (t : TypeId) (x y : Nat) (w : World) :
    (binOp .sub t (.float .f64 x) (.float .f64 y)).run P w = .ok (.float .f64 (fres .sub x y w)) (w.drewN (fdr .sub x y)) := by
  unfold fres fdr nanOf
  cases h : floatBits .sub .f64 x y with
  | some r => rw [run_float_arith w .sub t .f64 x y r h]; simp [World.drewN]
  | none =>
    have h' : FloatKind.f64.format.sub x y = none := h
    simp [binOp, Op.floatArith, h', Question.forced, World.drew_is_drewN]

theorem run_mul (P : Program) (t : TypeId) (x y : Nat) (w : World) :
    (binOp .mul t (.float .f64 x) (.float .f64 y)).run P w = .ok (.float .f64 (fres .mul x y w)) (w.drewN (fdr .mul x y)) := by
  unfold fres fdr nanOf
  cases h : floatBits .mul .f64 x y with
  | some r => rw [run_float_arith w .mul t .f64 x y r h]; simp [World.drewN]
  | none =>
    have h' : FloatKind.f64.format.mul x y = none := h
    simp [binOp, Op.floatArith, h', Question.forced, World.drew_is_drewN]

/-- a float result without the bits of a NaN ('none': some NaN). -/
def Rep (o : Option Nat) (b : Nat) : Prop := (∀ r, o = some r → b = r) ∧ (o = none → IsNan b)
def fopt (op : BinOp) (a b : Option Nat) : Option Nat :=
  match a, b with
  | some x, some y => floatBits op .f64 x y
  | _, _ => none
def fle (a b : Option Nat) : Bool :=
  match a, b with
  | some x, some y => FloatKind.f64.format.order x y == some Ordering.lt || FloatKind.f64.format.order x y == some Ordering.eq
  | _, _ => false

theorem rep_some (x : Nat) : Rep (some x) x := ⟨fun r h => by cases h; rfl, fun h => by cases h⟩
theorem rep_none {x : Nat} (h : IsNan x) : Rep none x := ⟨(fun r h => by cases h), fun _ => h⟩
theorem rep_op {op : BinOp} (ho : op = .sub ∨ op = .mul) {o o' : Option Nat} {b b' : Nat} (h : Rep o b) (h' : Rep o' b') (w : World) :
    Rep (fopt op o o') (fres op b b' w) := by
  unfold fres nanOf
  cases o with
  | none => rw [bits_nan_left op b' (h.2 rfl) ho]; exact rep_none (cut_nan b b' _)
  | some x =>
    cases o' with
    | none => rw [bits_nan_right op b (h'.2 rfl) ho]; exact rep_none (cut_nan b b' _)
    | some y =>
      obtain rfl := h.1 x rfl
      obtain rfl := h'.1 y rfl
      show Rep (floatBits op .f64 b b') _
      cases e : floatBits op .f64 b b' with
      | none => exact rep_none (cut_nan b b' _)
      | some r => exact rep_some r
theorem rep_le {o o' : Option Nat} {b b' : Nat} (h : Rep o b) (h' : Rep o' b') :
    (FloatKind.f64.format.order b b' == some Ordering.lt || FloatKind.f64.format.order b b' == some Ordering.eq) = fle o o' := by
  cases o with
  | none => simp [order_nan_left b' (h.2 rfl), fle]
  | some x =>
    cases o' with
    | none => simp [order_nan_right b (h'.2 rfl), fle]
    | some y =>
      obtain rfl := h.1 x rfl
      obtain rfl := h'.1 y rfl
      rfl

/-- the float next to x towards zero. -/
def prevB (x : Nat) : Nat := (IntKind.u64.wrap ((x : Int) - 1)).toNat
def prevO (x : Nat) : Option Nat :=
  if (FloatKind.f64.format.order x x != some Ordering.eq) = true then none
  else if (FloatKind.f64.format.order x 0 == some Ordering.eq) = true then some x else some (prevB x)

theorem sides {x : Nat} (h : (FloatKind.f64.format.order x x != some Ordering.eq) = false) (h0 : (FloatKind.f64.format.order x 0 == some Ordering.eq) = false) :
    ((FloatKind.f64.format.order 0 x == some Ordering.gt) == (FloatKind.f64.format.order x 0 == some Ordering.gt)) = false := by
  have hn : ¬ IsNan x := fun hh => by rw [(isNan_iff x).2 hh] at h; cases h
  have : FloatKind.f64.format.order x 0 ≠ none := by
    show (Ieee.double.read x).order (Ieee.double.read 0) ≠ none
    have e0 : Ieee.double.read 0 = .number false 0 Ieee.double.leastPlace := by decide +kernel
    rw [e0]
    unfold IsNan at hn
    cases e : Ieee.double.read x <;> simp_all [Ieee.Datum.isNaN, Ieee.Datum.order]
  rw [order_swap x 0]
  cases e : FloatKind.f64.format.order x 0 with
  | none => exact absurd e this
  | some o => cases o <;> simp_all <;> decide

def slackO (amount : Nat) (n : Int) : Option Nat :=
  fopt .mul (fopt .mul (some 4611686018427387904) (some (floatOfInt .f64 n))) (fopt .sub (some amount) (prevO amount))
end Go.Proofs.Ybulkbofy
