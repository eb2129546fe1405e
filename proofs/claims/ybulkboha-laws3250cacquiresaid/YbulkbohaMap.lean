import Derived.Test.YbulkbohaIns
import Derived.WideMake
namespace Go.Proofs.Ybulkboha
open Go.RowKit
set_option linter.unusedVariables false
set_option linter.unusedSimpArgs false

def oneE (page : Int) (pb : Nat) : Array MapEntry := #[{ key := .int .i64 page, val := .pointer (some ⟨pb, 0, none⟩), born := 0 }]
theorem zero69 (w : World) : (zeroValue 69).run Yba.prog w = .ok (.pointer none) w := by kernel_rfl
theorem key3 (w : World) (b : Bool) (page : Int) : (Instr.checkKey b 10000 3 (.int .i64 page)).run Yba.prog w = .ok () w := MapKept.run_checkKey (k := .int .i64 page) Yba.underlying3 (by simp [MapKept.IsKey]) b 9999

theorem lookup_none {w : World} {mb : Nat} (page : Int) (h : w.heap[mb]? = some (.map #[] 0)) : (Instr.lookup 51 (.map (some mb)) (.int .i64 page) false).run Yba.prog w = .ok (.pointer none) w := by
  have hf : Instr.findNow (.int .i64) (.int .i64 page) ([] : List MapEntry) 0 = some none := rfl
  simp [Instr.lookup, run_underlying Yba.underlying51, MapKept.run_getObj_map h, key3, MapKept.run_findKey Yba.underlying3 hf, zero69, Result.andThen]
theorem lookup_one {w : World} {mb pb ck : Nat} (page : Int) (h : w.heap[mb]? = some (.map (oneE page pb) ck)) : (Instr.lookup 51 (.map (some mb)) (.int .i64 page) false).run Yba.prog w = .ok (.pointer (some ⟨pb, 0, none⟩)) w := by
  have hf : Instr.findNow (.int .i64) (.int .i64 page) (oneE page pb).toList 0 = some (some (0, .pointer (some ⟨pb, 0, none⟩))) := by
    simp [Instr.findNow, oneE, Instr.sameNow]
  simp [Instr.lookup, run_underlying Yba.underlying51, MapKept.run_getObj_map h, key3, MapKept.run_findKey Yba.underlying3 hf, Result.andThen]
/-- the world with the page's entry. -/
def putE (w : World) (mb : Nat) (page : Int) (pb : Nat) : World := { w with heap := w.heap.setIfInBounds mb (.map (oneE page pb) 1) }
theorem upd_first {w : World} {mb : Nat} (page : Int) (pb : Nat) (h : w.heap[mb]? = some (.map #[] 0)) : (Instr.mapUpdate 51 (.map (some mb)) (.int .i64 page) (.pointer (some ⟨pb, 0, none⟩))).run Yba.prog w = .ok () (putE w mb page pb) := by
  have hf : Instr.findNow (.int .i64) (.int .i64 page) ([] : List MapEntry) 0 = some none := rfl
  simp [Instr.mapUpdate, run_underlying Yba.underlying51, MapKept.run_getObj_map h, key3, MapKept.run_findKey Yba.underlying3 hf, MapKept.run_setObj_map _ h, Result.andThen]
  rfl
theorem chg_putE (w : World) (mb : Nat) (page : Int) (pb : Nat) : Chg (· = mb) w (putE w mb page pb) :=
  ⟨rfl, rfl, rfl, by simp [putE], fun k _ hk => by simp [putE, Array.getElem?_setIfInBounds_ne (Ne.symm hk)]⟩
theorem putE_at {w : World} {mb : Nat} {o : Obj} (page : Int) (pb : Nat) (h : w.heap[mb]? = some o) : (putE w mb page pb).heap[mb]? = some (.map (oneE page pb) 1) := by
  simp [putE, Array.getElem?_setIfInBounds_self, (Array.getElem?_eq_some_iff.1 h).1]

set_option maxHeartbeats 1000000 in
theorem newPl_new {w : World} {sb hb mb : Nat} {ct : Value} {cf ac la bo se en ot : Int} (S : Site w sb hb mb nilV cf ct ac la bo se en ot) :
    Calls Yba.prog 27 #[.pointer (some ⟨sb, 15, none⟩)] w fun e w' => e = .returned (.pointer (some ⟨w.heap.size, 0, none⟩)) ∧ w' = w.alloc (.cells #[nilV, nilV] 72) := by
  have c16 : w.cell? ⟨sb, 16, none⟩ = some nilV := by rw [cell_of_row _ _ _ _ _ _ S.site]; rfl
  clear S
  go_enter Yba.func27, Yba.ntmps27
  go_wp2
  go_ret
  exact ⟨rfl, rfl⟩
set_option maxHeartbeats 1000000 in
theorem newPl_old {w : World} {sb hb mb fb sp : Nat} {ct : Value} {cf ac la bo se en ot : Int} (S : Site w sb hb mb (.slice (some ⟨fb, 0, none⟩) 1 1) cf ct ac la bo se en ot) (hf : w.heap[fb]? = some (.cells #[.pointer (some ⟨sp, 0, none⟩)] 69 (0, 0))) (hne : fb ≠ sb) (hnh : fb ≠ hb) :
    Calls Yba.prog 27 #[.pointer (some ⟨sb, 15, none⟩)] w fun e w' => e = .returned (.pointer (some ⟨sp, 0, none⟩)) ∧ Chg (fun k => k = fb ∨ k = sb) w w' ∧ Site w' sb hb mb (.slice (some ⟨fb, 0, none⟩) 0 1) cf ct ac la bo se en ot := by
  have c16 : w.cell? ⟨sb, 16, none⟩ = some (.slice (some ⟨fb, 0, none⟩) 1 1) := by rw [cell_of_row _ _ _ _ _ _ S.site]; rfl
  have f16 : w.frozen? ⟨sb, 16, none⟩ = false := frozen_of_row w sb 16 _ 68 S.site
  have b0 : w.cell? ⟨fb, 0, none⟩ = some (.pointer (some ⟨sp, 0, none⟩)) := by rw [cell_of_row _ _ _ _ _ _ hf]; rfl
  have g0 : w.frozen? ⟨fb, 0, none⟩ = false := frozen_of_row w fb 0 _ 69 hf
  have HS : Hid (Site w sb hb mb (.slice (some ⟨fb, 0, none⟩) 1 1) cf ct ac la bo se en ot) := S
  have hsn := S.ne
  clear S hf
  go_enter Yba.func27, Yba.ntmps27
  go_wp2
  go_ret
  have c := ((chg_set w fb 0 (.pointer none)).mono (T := fun k => k = fb ∨ k = sb) (fun q _ h => .inl h)).trans ((chg_set _ sb 16 (.slice (some ⟨fb, 0, none⟩) 0 1)).mono (fun q _ h => .inr h))
  refine ⟨rfl, c, ⟨?_, c.heap HS.out.host (by omega)⟩⟩
  rw [heap_setCell_same _ sb 16 _ 68 _ ((chg_set w fb 0 _).heap HS.out.site (by omega))]
  rfl
end Go.Proofs.Ybulkboha
