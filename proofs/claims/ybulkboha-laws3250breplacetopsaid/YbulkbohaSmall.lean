import Derived.Test.YbulkbohaRows
import Derived.WalkKit
import Derived.WalkSpells
import Derived.WalkLawsBesides
namespace Go.Proofs.Ybulkboha
open Go.RowKit
set_option linter.unusedVariables false

/-- the order of two entries: by time, then by number. -/
def ltE (a b : Int × Int) : Bool := if a.1 = b.1 then decide (a.2 < b.2) else decide (a.1 < b.1)

def schedV (a : Int × Int) : Value := .agg #[.int .i64 a.1, .int .u64 a.2, .pointer none]
def itemV (a : Int × Int) : Value := .agg #[.int .i64 a.1, .int .u64 a.2]

theorem ret_bool {a b : Bool} (h : a = b) : Ending.returned (.bool a) = .returned (.bool b) := by rw [h]

set_option maxHeartbeats 400000 in
theorem before_any (a b : Int × Int) (w : World) :
    Calls Yba.prog 24 #[schedV a, schedV b] w fun e w' => e = .returned (.bool (ltE a b)) ∧ Below w.heap.size w w' := by
  obtain ⟨a1, a2⟩ := a
  obtain ⟨b1, b2⟩ := b
  unfold schedV
  by_cases h : a1 = b1
  · subst h
    go_enter Yba.func24, Yba.ntmps24
    go_wp2
    go_ret
    exact ⟨ret_bool (by simp [ltE]), ((Below.refl _ _).alloc (Nat.le_refl _) _).alloc (by simp) _⟩
  · have h1 : (a1 != b1) = true := by simpa using h
    go_enter Yba.func24, Yba.ntmps24
    go_wp2
    go_ret
    exact ⟨ret_bool (by simp [ltE, h]), ((Below.refl _ _).alloc (Nat.le_refl _) _).alloc (by simp) _⟩

set_option maxHeartbeats 400000 in
theorem less_any (a b : Int × Int) (w : World) :
    Calls Yba.prog 13 #[itemV a, itemV b] w fun e w' => e = .returned (.bool (ltE a b)) ∧ Below w.heap.size w w' := by
  obtain ⟨a1, a2⟩ := a
  obtain ⟨b1, b2⟩ := b
  unfold itemV
  by_cases h : a1 = b1
  · subst h
    go_enter Yba.func13, Yba.ntmps13
    go_wp2
    go_ret
    exact ⟨ret_bool (by simp [ltE]), ((Below.refl _ _).alloc (Nat.le_refl _) _).alloc (by simp) _⟩
  · have h1 : (a1 != b1) = true := by simpa using h
    go_enter Yba.func13, Yba.ntmps13
    go_wp2
    go_ret
    exact ⟨ret_bool (by simp [ltE, h]), ((Below.refl _ _).alloc (Nat.le_refl _) _).alloc (by simp) _⟩

set_option maxHeartbeats 400000 in
theorem sched_any (a : Int × Int) (w : World) :
    Calls Yba.prog 6 #[itemV a] w fun e w' => e = .returned (schedV a) ∧ Below w.heap.size w w' := by
  obtain ⟨a1, a2⟩ := a
  unfold itemV schedV
  go_enter Yba.func6, Yba.ntmps6
  go_wp2
  exact bodyPost_ret (v := .agg #[.int .i64 a1, .int .u64 a2, .pointer none]) (by simp [results, Yba.results6, go_sem]) rfl ⟨rfl, ((Below.refl _ _).alloc (Nat.le_refl _) _).alloc (by simp) _⟩

set_option maxHeartbeats 400000 in
theorem item_any (a : Int × Int) (w : World) :
    Calls Yba.prog 10 #[schedV a] w fun e w' => e = .returned (itemV a) ∧ Below w.heap.size w w' := by
  obtain ⟨a1, a2⟩ := a
  unfold itemV schedV
  go_enter Yba.func10, Yba.ntmps10
  go_wp2
  exact bodyPost_ret (v := .agg #[.int .i64 a1, .int .u64 a2]) (by simp [results, Yba.results10, go_sem]) rfl ⟨rfl, ((Below.refl _ _).alloc (Nat.le_refl _) _).alloc (by simp) _⟩
end Go.Proofs.Ybulkboha
