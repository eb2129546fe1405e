import Derived.Test.YbulkbojsTime
import Derived.Below
namespace Go.Proofs.Ybulkbojs
open Go.RowKit
set_option linter.unusedVariables false

/-- the cells of the header that the law lays. -/
def hdrArr (clock perf cpu start stamp : Int) : Array Value :=
  #[.int .i64 64, .int .u32 0, .int .u8 0, .int .u8 0, .int .u8 0, .int .u8 0, .int .u32 0, .int .u32 0, .int .i64 0, .int .u32 0, .int .u32 0, .int .u32 0, .int .u32 0, .int .u32 0, .int .u32 0, .int .u32 0,
    .int .u32 cpu, .int .i32 0, .int .i64 0, .int .i64 perf, .int .i64 start, .int .u32 clock, .int .u32 0, .int .i64 stamp, .string ⟨#[]⟩, .string ⟨#[]⟩]
theorem hdrArr_size (clock perf cpu start stamp : Int) : (hdrArr clock perf cpu start stamp).size = 26 := rfl
theorem hdrArr_one (clock perf cpu start stamp : Int) : (hdrArr clock perf cpu start stamp).all (·.oneCell') = true := by simp [hdrArr, Value.oneCell']
theorem info37 : (Yba.prog.info? 37).map (·.size) = some 26 := by kernel_rfl

theorem ret_int {k : IntKind} {a b : Int} (h : a = b) : Ending.returned (.int k a) = .returned (.int k b) := by rw [h]
set_option maxHeartbeats 1000000 in
theorem rate_is (clock perf cpu start stamp : Int) (w : World) :
    Calls Yba.prog 14 #[.agg #[.int .u32 clock, .int .i64 perf, .int .u32 cpu, .int .i64 start, .int .i64 stamp]] w fun e w' => e = .returned (.int .i64 (rateOf clock perf cpu)) ∧ Below w.heap.size w w' := by
  have hb : ∀ o, Below w.heap.size w (w.alloc o) := fun o => (Below.refl _ _).alloc (Nat.le_refl _) _
  by_cases k1 : clock = 1
  · subst k1
    go_enter Yba.func14, Yba.ntmps14
    go_wp2
    go_ret
    exact ⟨rfl, hb _⟩
  · have e1 : (clock == 1) = false := by simpa using k1
    have r1 : rateOf clock perf cpu = if clock = 3 then wrap64 (wrap64 cpu * 1000000) else 0 := by unfold rateOf; rw [if_neg k1]
    have R1 : Hid (rateOf clock perf cpu = if clock = 3 then wrap64 (wrap64 cpu * 1000000) else 0) := r1
    clear r1
    by_cases k3 : clock = 3
    · subst k3
      go_enter Yba.func14, Yba.ntmps14
      go_wp2
      go_ret
      exact ⟨rfl, hb _⟩
    · have e3 : (clock == 3) = false := by simpa using k3
      go_enter Yba.func14, Yba.ntmps14
      go_wp2
      go_ret
      exact ⟨ret_int (by rw [R1.out, if_neg k3]), hb _⟩

theorem below_row {w : World} (A B : Obj) (cs : Array Value) : Below w.heap.size w (((w.alloc A).alloc B).setRow (w.heap.size + 1) cs) := by
  have hb : Below w.heap.size w ((w.alloc A).alloc B) := ((Below.refl _ _).alloc (Nat.le_refl _) _).alloc (by simp) _
  exact ⟨hb.os, hb.tape, hb.output, by rw [setRow_size]; exact hb.size, fun k hk => by rw [setRow_other _ _ _ _ (by omega)]; exact hb.block k hk⟩
theorem heap_two {w : World} (A B : Obj) : ((w.alloc A).alloc B).heap[w.heap.size + 1]? = some B := by
  have := heap_alloc_new (w.alloc A) B
  rwa [show (w.alloc A).heap.size = w.heap.size + 1 by simp] at this

set_option maxHeartbeats 1000000 in
theorem hdr_is (clock perf cpu start stamp : Int) (w : World) :
    Calls Yba.prog 12 #[.agg #[.int .u32 clock, .int .i64 perf, .int .u32 cpu, .int .i64 start, .int .i64 stamp]] w fun e w' => e = .returned (.agg (hdrArr clock perf cpu start stamp)) ∧ Below w.heap.size w w' := by
  go_enter Yba.func12, Yba.ntmps12
  go_wp2_with (refine wpList_store_row rfl 37 (.tmp 2) (.tmp 13) rfl (w.heap.size + 1) (hdrArr clock perf cpu start stamp) rfl rfl 37 _ (heap_two _ _) (by rw [hdrArr_size, info37]) (by rw [hdrArr_size]; rfl) (hdrArr_one _ _ _ _ _) ?_)
  exact bodyPost_ret (v := .agg (hdrArr clock perf cpu start stamp)) (results_cell_row Yba.results12 _ _ (w.heap.size + 1) 37 _ (0, 0) _ rfl (setRow_heap _ _ _ _ _ _ (heap_two _ _)) Yba.underlying37 rfl (by rw [hdrArr_size, info37])) rfl ⟨rfl, below_row _ _ _⟩
end Go.Proofs.Ybulkbojs
