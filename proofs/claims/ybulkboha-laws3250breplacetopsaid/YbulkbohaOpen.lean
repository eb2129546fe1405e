import Derived.Test.YbulkbohaCopy
import Derived.ProofKit
import Derived.ChangeOld
import Derived.Deep.SlicePairs
namespace Go.Proofs.Ybulkboha
open Go.ChangeShapes Go.WideShapes Go.ChangeAt Go.RowKit
set_option linter.unusedVariables false

theorem own : ownKnob Yba.prog.godebug = none := by kernel_rfl
theorem laidOut : laidOutB Yba.prog = true := by kernel_rfl

/-- as many pairs as are wanted. -/
theorem choose_list {p : Nat → Int × Int → Prop} : ∀ n, (∀ i, i < n → ∃ y, p i y) → ∃ xs : List (Int × Int), xs.length = n ∧ ∀ i, i < n → p i (gE xs i)
  | 0, _ => ⟨[], rfl, fun i hi => by omega⟩
  | n + 1, h => by
    obtain ⟨xs, hl, hx⟩ := choose_list n (fun i hi => h i (by omega))
    obtain ⟨y, hy⟩ := h n (by omega)
    refine ⟨xs ++ [y], by simp [hl], fun i hi => ?_⟩
    by_cases hin : i < n
    · rw [gE_append (by omega)]; exact hx i hin
    · have : i = n := by omega
      subst this
      have e : gE (xs ++ [y]) i = y := by rw [gE_eq (by simp; omega)]; simp [hl]
      rw [e]; exact hy

theorem open_items {H : Type} {enc : TypeId × Value → H} {w : World} {base : Nat} {spare : Nat → Bool} {held : Bool} {a0 : Option Addr} {len cap fuel : Nat} {x : DataW H × List MemPlace}
    (h : DataW.trod enc Yba.prog w base spare held fuel 22 [.slice a0 len cap] = some x) :
    ∃ xs, xs.length = len ∧ SrcI w a0 xs ∧ len ≤ maxLen := by
  rcases Go.Deep.open_slice_pairs Yba.underlying22 Yba.underlying32 (by kernel_rfl) rfl rfl (by kernel_rfl) (by kernel_rfl) h with ⟨hcs, _⟩ | ⟨a, l, c, m, n, V0, V1, D0, D1, P0, P1, hcs, _, hl, hm, hmm, _, hx⟩
  · simp at hcs
    obtain ⟨rfl, rfl, rfl⟩ := hcs
    exact ⟨[], rfl, .inl rfl, Nat.zero_le _⟩
  · simp at hcs
    obtain ⟨rfl, rfl, rfl⟩ := hcs
    have hlm : len ≤ m := by rw [hmm]; split <;> omega
    have each : ∀ i, i < len → ∃ y : Int × Int, w.cell? (a.add (i * 2)) = some (.int .i64 y.1) ∧ w.cell? (a.add (i * 2 + 1)) = some (.int .u64 y.2) := by
      intro i hi
      obtain ⟨c0, c1, t0, t1⟩ := hx i (by omega)
      obtain ⟨n0, e0, _⟩ := DataW.trod_int Yba.underlying2 t0
      obtain ⟨n1, e1, _⟩ := DataW.trod_int Yba.underlying26 t1
      simp at e0 e1
      exact ⟨(n0, n1), by rw [c0, e0], by rw [c1, e1]⟩
    obtain ⟨xs, hxl, hxx⟩ := choose_list len each
    refine ⟨xs, hxl, ?_, by omega⟩
    by_cases h0 : len = 0
    · exact .inl (List.eq_nil_of_length_eq_zero (by omega))
    · obtain ⟨b, off, spot⟩ := a
      have hspot : spot = none := by simpa [Addr.add] using World.cell?_spot (hxx 0 (by omega)).1
      subst hspot
      refine .inr ⟨b, off, rfl, fun j hj => ?_⟩
      have := hxx j (by omega)
      rw [Addr.add_lit, Addr.add_lit] at this
      rw [Nat.add_assoc]
      exact this
end Go.Proofs.Ybulkboha
