import Derived.Test.YbulkbogmBlocks
import Derived.Deep.RegionWith
namespace Go.Proofs.Ybulkbogm
open Go.RowKit
set_option linter.unusedVariables false

theorem nil_ahead (a : Addr) (w : World) : (nilAhead 172 23 (.pointer (some a)) "Sum").run Yba.prog w = .ok (some false) w := by kernel_rfl
theorem method_sum (a : Addr) (w : World) : (method 172 23 (.pointer (some a)) "Sum").run Yba.prog w = .ok (27, .pointer (some a)) w := by kernel_rfl

theorem side_ne {w : World} {bs : Nat} (h : bs < w.heap.size) : w.heap.size + 1 ≠ bs := by omega
theorem side_lt {w : World} {bs : Nat} {A B : Obj} (h : bs < w.heap.size) : bs < ((w.alloc A).alloc B).drew.heap.size ∧ w.heap.size + 1 < ((w.alloc A).alloc B).drew.heap.size := by
  have e : ((w.alloc A).alloc B).drew.heap.size = w.heap.size + 2 := by show ((w.alloc A).alloc B).heap.size = _; simp
  omega
theorem side_le {w w0 : World} {bs : Nat} (h : w0.heap.size ≤ bs) (h1 : bs < w.heap.size) : w0.heap.size ≤ bs ∧ w0.heap.size ≤ w.heap.size + 1 := by omega
theorem side_below {w w0 : World} {A B : Obj} (h : Below w0.heap.size w0 w) : Below w0.heap.size w0 ((w.alloc A).alloc B).drew :=
  ((h.alloc h.size _).alloc (Nat.le_trans h.size (by simp)) _).drew
theorem side_bs {w : World} {bs : Nat} {o : Obj} {A B : Obj} (h : w.heap[bs]? = some o) (hb : bs < w.heap.size) : ((w.alloc A).alloc B).drew.heap[bs]? = some o := by
  show ((w.alloc A).alloc B).heap[bs]? = some o
  rw [Below.heap_alloc _ _ _ (by simp; omega), Below.heap_alloc _ _ _ hb, h]
theorem side_bi {w : World} {A B : Obj} : ((w.alloc A).alloc B).drew.heap[w.heap.size + 1]? = some B := heap_alloc2_new w A B
theorem side_res {w : World} {A B : Obj} : ((w.alloc A).alloc B).drew.heap[w.heap.size]? = some A := heap_alloc2_old w A B

theorem side_old {w w' : World} {bs : Nat} {A B : Obj} (h : But bs (w.heap.size + 1) ((w.alloc A).alloc B).drew w') (hb : bs < w.heap.size) : w'.heap[w.heap.size]? = some A := by
  have e : ((w.alloc A).alloc B).drew.heap.size = w.heap.size + 2 := by show ((w.alloc A).alloc B).heap.size = _; simp
  rw [h.block w.heap.size (by omega) (by omega) (by omega)]
  exact side_res
theorem side_bel {w w' : World} {bs : Nat} {A B : Obj} (h : But bs (w.heap.size + 1) ((w.alloc A).alloc B).drew w') (hb : bs < w.heap.size) : Below bs w w' := by
  have e : ((w.alloc A).alloc B).drew.heap.size = w.heap.size + 2 := by show ((w.alloc A).alloc B).heap.size = _; simp
  have hs := h.size
  refine ⟨h.os, h.tape, h.output, by omega, fun k hk => ?_⟩
  rw [h.block k (by omega) (by omega) (by omega)]
  show ((w.alloc A).alloc B).heap[k]? = _
  rw [Below.heap_alloc _ _ _ (by simp; omega), Below.heap_alloc _ _ _ (by omega)]
theorem wantArr_one (zs : List Int) : (wantArr zs).all (·.oneCell') = true := by
  rw [Array.all_eq_true]
  intro i hi
  simp only [wantArr, Array.getElem_ofFn]
  rfl
theorem info27 : (Yba.prog.info? 27).map (·.size) = some 32 := by kernel_rfl

set_option maxHeartbeats 800000 in
theorem digest_any (bs : Nat) (a0 : Option Addr) (len cap : Nat) (zs : List Int) (w0 w : World) (hbl : bs < w.heap.size)
    (hb0 : w0.heap.size ≤ bs) (hbel : Below w0.heap.size w0 w) (hr : IsRow .u8 w0 a0 len cap zs) (hlen : len ≤ 1024)
    (hs : w.heap[bs]? = some (.cells (hObj (.slice a0 len cap) 0 0 0 0) 25 (0, 0))) :
    Calls Yba.prog 5 #[.iface 23 (.pointer (some ⟨bs, 0, none⟩))] w fun e w' => 
      e = .returned (.agg (wantArr (zs.take len))) ∧ w'.heap[bs]? = some (.cells (hObj (.slice a0 len cap) 1 0 0 32) 25 (0, 0)) ∧ Below bs w w' := by
  have HR : Hid (IsRow .u8 w0 a0 len cap zs) := hr
  have HS : Hid (w.heap[bs]? = some (.cells (hObj (.slice a0 len cap) 0 0 0 0) 25 (0, 0))) := hs
  clear hs hr
  have na := nil_ahead
  have ms := method_sum
  go_enter Yba.func5, Yba.ntmps5
  go_wp2
  go_region_with (go_at_call 27; refine (sum_blocks bs (w.heap.size + 1) a0 len cap zs w0 _ ?_ ?_ ?_ ?_ HR.out hlen ?_ ?_).mono ?_; exact side_ne hbl; exact side_lt hbl; exact side_le hb0 hbl; exact side_below hbel; exact side_bs HS.out hbl; exact side_bi; rintro e w' ⟨v, rfl, k1, k2, k3⟩)
  have KR : Hid (w'.heap[w.heap.size]? = some (.cells zero32 27 (0, 0))) := side_old k3 hbl
  have KB : Hid (Below bs w w') := side_bel k3 hbl
  have KS : Hid (w'.heap[bs]? = some (Obj.cells (hObj (Value.slice a0 len cap) 1 0 0 32) 25)) := k1
  have KI : Hid (w'.heap[w.heap.size + 1]? = some (Obj.cells (wantArr (List.take len zs)) 27)) := k2
  clear k1 k2 k3
  go_wp2_with (first
    | (refine wpList_load_row rfl 27 (.tmp 3) rfl (w.heap.size + 1) rfl 27 (wantArr (zs.take len)) (0, 0) _ KI.out Yba.underlying27 rfl ?_ ?_)
    | (refine wpList_store_row rfl 27 (.tmp 2) (.tmp 10) rfl w.heap.size (wantArr (zs.take len)) rfl rfl 27 zero32 KR.out ?_ ?_ ?_ ?_))
  · rw [wantArr_size, info27]
  · rw [wantArr_size, info27]
  · rw [wantArr_size]; rfl
  · exact wantArr_one _
  · have hg := setRow_heap w' w.heap.size zero32 (wantArr (zs.take len)) 27 (0, 0) KR.out
    refine bodyPost_ret (v := .agg (wantArr (zs.take len))) (results_cell_row (Yba.results5) _ _ w.heap.size 27 _ (0, 0) _ rfl hg Yba.underlying27 rfl (by rw [wantArr_size, info27])) rfl ⟨rfl, ?_, ?_⟩
    · rw [setRow_other _ _ _ _ (by omega)]; exact KS.out
    · have hb := KB.out
      exact ⟨hb.os, hb.tape, hb.output, by rw [setRow_size]; exact hb.size, fun k hk => by rw [setRow_other _ _ _ _ (by omega)]; exact hb.block k hk⟩
end Go.Proofs.Ybulkbogm
