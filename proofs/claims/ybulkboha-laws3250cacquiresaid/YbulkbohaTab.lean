import Derived.Test.YbulkbohaAband
import Derived.Carry
namespace Go.Proofs.Ybulkboha
open Go.RowKit
set_option linter.unusedVariables false

theorem info54 : (Yba.prog.info? 54).map (·.size) = some 2 := by kernel_rfl
set_option maxHeartbeats 1000000 in
theorem tab_is (w : World) :
    Calls Yba.prog 14 #[] w fun e w' => e = .returned (.agg #[.map (some (w.heap.size + 1)), .slice none 0 0]) ∧ Below w.heap.size w w' ∧ w'.heap.size = w.heap.size + 2 ∧ w'.heap[w.heap.size + 1]? = some (.map #[] 0) := by
  have hmm := @run_makeMap Yba.prog
  go_enter Yba.func14, Yba.ntmps14
  go_wp2
  have hsz : (w.alloc (Obj.cells #[Value.map (some (w.heap.size + 1)), Value.slice none 0 0] 54)).heap.size = w.heap.size + 1 := by simp
  have hg : ((w.alloc (Obj.cells #[Value.map (some (w.heap.size + 1)), Value.slice none 0 0] 54)).alloc (Obj.map #[] 0)).heap[w.heap.size]? = some (.cells #[Value.map (some (w.heap.size + 1)), Value.slice none 0 0] 54 (0, 0)) := by
    rw [Below.heap_alloc _ _ _ (by omega)]; exact heap_alloc_new _ _
  refine bodyPost_ret (v := .agg #[.map (some (w.heap.size + 1)), .slice none 0 0]) (results_cell_row Yba.results14 _ _ w.heap.size 54 _ (0, 0) _ rfl hg Yba.underlying54 rfl info54) rfl ⟨rfl, ((Below.refl _ _).alloc (Nat.le_refl _) _).alloc (by simp) _, by simp, ?_⟩
  have hn := heap_alloc_new (w.alloc (Obj.cells #[Value.map (some (w.heap.size + 1)), Value.slice none 0 0] 54)) (Obj.map #[] 0)
  rwa [hsz] at hn

/-- the law's site. -/
def siteArr (hb mb : Nat) (fr : Value) : Array Value :=
  #[.iface 46 (.pointer (some ⟨hb, 0, none⟩)), .string ⟨#[]⟩, .float .f64 0, .int .i64 0, .bool false, .bool false, .bool false, .bool false, .bool false, .bool false, .bool false, .bool false, .bool false,
    .map none, .map none, .map (some mb), fr]
/-- site and host, as they lie in memory. -/
structure Site (w : World) (sb hb mb : Nat) (fr : Value) (cf : Int) (ct : Value) (ac la bo se en ot : Int) : Prop where
  site : w.heap[sb]? = some (.cells (siteArr hb mb fr) 68 (0, 0))
  host : w.heap[hb]? = some (.cells (#[.int .i64 cf, ct, .int .i64 ac, .int .i64 la, .int .i64 bo, .int .i64 se, .int .i64 en, .int .i64 ot]) 49 (0, 0))
end Go.Proofs.Ybulkboha
