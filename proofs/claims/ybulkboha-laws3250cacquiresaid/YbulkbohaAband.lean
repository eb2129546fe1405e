import Derived.Test.YbulkbohaEq
namespace Go.Proofs.Ybulkboha
open Go.RowKit
set_option linter.unusedVariables false

/-- the cells of a cohort that holds nothing. -/
structure Idle (w : World) (c tb cb : Nat) : Prop where
  tx : w.cell? ⟨c, 1, none⟩ = some (.pointer (some ⟨tb, 0, none⟩))
  ix : w.cell? ⟨c, 2, none⟩ = some (.int .i64 0)
  lk : w.cell? ⟨c, 4, none⟩ = some (.int .i64 0)
  co : w.cell? ⟨tb, 5, none⟩ = some (.slice (some ⟨cb, 0, none⟩) 1 1)
  si : w.cell? ⟨cb, 0, none⟩ = some (.int .i64 0)
  pg : w.cell? ⟨cb, 1, none⟩ = some (.slice none 0 0)

set_option maxRecDepth 100000 in
set_option maxHeartbeats 1000000 in
theorem pages_is (c tb cb : Nat) (w : World) (h : Idle w c tb cb) :
    Calls Yba.prog 52 #[.pointer (some ⟨c, 0, none⟩)] w fun e w' => e = .returned (.slice none 0 0) ∧ ∃ k, w' = w.drewN k := by
  obtain ⟨h1, h2, h4, h5, h6, h7⟩ := h
  go_enter Yba.func52, Yba.ntmps52
  go_upto_region 1 with fail
  go_quiet (fail)
  go_wp2
  go_ret
  exact ⟨rfl, _, rfl⟩
theorem master_is (c tb cb : Nat) (w : World) (h : Idle w c tb cb) :
    Calls Yba.prog 57 #[.pointer (some ⟨tb, 0, none⟩)] w fun e w' => e = .returned (.int .i64 0) ∧ w' = w := by
  obtain ⟨h1, h2, h4, h5, h6, h7⟩ := h
  go_enter Yba.func57, Yba.ntmps57
  go_wp2
  go_ret
  exact ⟨rfl, rfl⟩
theorem Idle.drew {w : World} {c tb cb : Nat} (h : Idle w c tb cb) (k : Nat) : Idle (w.drewN k) c tb cb := ⟨h.tx, h.ix, h.lk, h.co, h.si, h.pg⟩

/-- the same as one conjunction. -/
theorem Idle.conj {w : World} {c tb cb : Nat} (h : Idle w c tb cb) : w.cell? ⟨c, 1, none⟩ = some (.pointer (some ⟨tb, 0, none⟩)) ∧ w.cell? ⟨c, 2, none⟩ = some (.int .i64 0) ∧ w.cell? ⟨c, 4, none⟩ = some (.int .i64 0) ∧
    w.cell? ⟨tb, 5, none⟩ = some (.slice (some ⟨cb, 0, none⟩) 1 1) ∧ w.cell? ⟨cb, 0, none⟩ = some (.int .i64 0) ∧ w.cell? ⟨cb, 1, none⟩ = some (.slice none 0 0) := ⟨h.tx, h.ix, h.lk, h.co, h.si, h.pg⟩
theorem pagesA {w : World} {c tb cb : Nat} (h : w.cell? ⟨c, 1, none⟩ = some (.pointer (some ⟨tb, 0, none⟩)) ∧ w.cell? ⟨c, 2, none⟩ = some (.int .i64 0) ∧ w.cell? ⟨c, 4, none⟩ = some (.int .i64 0) ∧
    w.cell? ⟨tb, 5, none⟩ = some (.slice (some ⟨cb, 0, none⟩) 1 1) ∧ w.cell? ⟨cb, 0, none⟩ = some (.int .i64 0) ∧ w.cell? ⟨cb, 1, none⟩ = some (.slice none 0 0)) :
    Calls Yba.prog 52 #[.pointer (some ⟨c, 0, none⟩)] w fun e w' => e = .returned (.slice none 0 0) ∧ ∃ k, w' = w.drewN k := pages_is c tb cb w ⟨h.1, h.2.1, h.2.2.1, h.2.2.2.1, h.2.2.2.2.1, h.2.2.2.2.2⟩
theorem keepD {w : World} {k : Nat} {p1 p2 p3 p4 p5 p6 : Addr} {v1 v2 v3 v4 v5 v6 : Value} (h : w.cell? p1 = some v1 ∧ w.cell? p2 = some v2 ∧ w.cell? p3 = some v3 ∧ w.cell? p4 = some v4 ∧ w.cell? p5 = some v5 ∧ w.cell? p6 = some v6) :
    (w.drewN k).cell? p1 = some v1 ∧ (w.drewN k).cell? p2 = some v2 ∧ (w.drewN k).cell? p3 = some v3 ∧ (w.drewN k).cell? p4 = some v4 ∧ (w.drewN k).cell? p5 = some v5 ∧ (w.drewN k).cell? p6 = some v6 := h

set_option maxRecDepth 100000 in
set_option maxHeartbeats 1000000 in
theorem release_is (c tb cb : Nat) (m : Int) (w : World) (h : Idle w c tb cb) :
    Calls Yba.prog 54 #[.pointer (some ⟨c, 0, none⟩), .int .u8 m] w fun e w' => e = .returned (.tuple #[]) ∧ ∃ k, w' = w.drewN k := by
  have hj := h.conj
  clear h
  go_enter Yba.func54, Yba.ntmps54
  go_upto_region 0 with fail
  go_region_held3 (fun w' => w'.cell? ⟨c, 1, none⟩ = some (.pointer (some ⟨tb, 0, none⟩)) ∧ w'.cell? ⟨c, 2, none⟩ = some (.int .i64 0) ∧ w'.cell? ⟨c, 4, none⟩ = some (.int .i64 0) ∧
      w'.cell? ⟨tb, 5, none⟩ = some (.slice (some ⟨cb, 0, none⟩) 1 1) ∧ w'.cell? ⟨cb, 0, none⟩ = some (.int .i64 0) ∧ w'.cell? ⟨cb, 1, none⟩ = some (.slice none 0 0))
    (first | exact hj | exact keepD (by assumption))
    ((go_at_call 52; with_reducible refine (pagesA (by assumption)).mono ?_; rintro e w' ⟨rfl, k', rfl⟩))
  go_wp2
  go_loop [14] (fun i => i = .int .i64 0) (fun _ => 0)
  case atStart => rfl
  case round =>
    subst hrel
    go_wp2
    go_end0
    exact ⟨rfl, _, rfl⟩

set_option maxRecDepth 100000 in
set_option maxHeartbeats 1000000 in
theorem undo_is (c tb cb : Nat) (w : World) (h : Idle w c tb cb) :
    Calls Yba.prog 55 #[.pointer (some ⟨c, 0, none⟩)] w fun e w' => e = .returned (.tuple #[]) ∧ ∃ k, w' = w.drewN k := by
  have hj := h.conj
  clear h
  go_enter Yba.func55, Yba.ntmps55
  go_upto_region 0 with fail
  go_region_held3 (fun w' => w'.cell? ⟨c, 1, none⟩ = some (.pointer (some ⟨tb, 0, none⟩)) ∧ w'.cell? ⟨c, 2, none⟩ = some (.int .i64 0) ∧ w'.cell? ⟨c, 4, none⟩ = some (.int .i64 0) ∧
      w'.cell? ⟨tb, 5, none⟩ = some (.slice (some ⟨cb, 0, none⟩) 1 1) ∧ w'.cell? ⟨cb, 0, none⟩ = some (.int .i64 0) ∧ w'.cell? ⟨cb, 1, none⟩ = some (.slice none 0 0))
    (first | exact hj | exact keepD (by assumption))
    ((go_at_call 52; with_reducible refine (pagesA (by assumption)).mono ?_; rintro e w' ⟨rfl, k', rfl⟩))
  go_wp2
  go_loop [12] (fun i => i = .int .i64 0) (fun _ => 0)
  case atStart => rfl
  case round =>
    subst hrel
    go_wp2
    go_end0
    exact ⟨rfl, _, rfl⟩

/-- a cohort of the law, as it lies in memory. -/
structure Lies (w : World) (sb c tb cb : Nat) (ph : Int) (lend : Bool) (loans : Value) : Prop where
  coh : w.heap[c]? = some (.cells (cohArr sb tb ph 0 false .nilFunc (.slice none 0 0) lend loans) 83 (0, 0))
  txn : ∃ dl ar nu, w.heap[tb]? = some (.cells (txnArr dl ar nu cb) 102 (0, 0))
  cohs : w.heap[cb]? = some (.cells cohsArr 99 (0, 0))
theorem Lies.idle {w : World} {sb c tb cb : Nat} {ph : Int} {lend : Bool} {loans : Value} (h : Lies w sb c tb cb ph lend loans) : Idle w c tb cb := by
  obtain ⟨dl, ar, nu, ht⟩ := h.txn
  refine ⟨?_, ?_, ?_, ?_, ?_, ?_⟩
  · rw [cell_of_row _ _ _ _ _ _ h.coh]; rfl
  · rw [cell_of_row _ _ _ _ _ _ h.coh]; rfl
  · rw [cell_of_row _ _ _ _ _ _ h.coh]; rfl
  · rw [cell_of_row _ _ _ _ _ _ ht]; rfl
  · rw [cell_of_row _ _ _ _ _ _ h.cohs]; rfl
  · rw [cell_of_row _ _ _ _ _ _ h.cohs]; rfl
theorem Lies.below {w w' : World} {sb c tb cb : Nat} {ph : Int} {lend : Bool} {loans : Value} (h : Lies w sb c tb cb ph lend loans) (k : Below w.heap.size w w') : Lies w' sb c tb cb ph lend loans := by
  obtain ⟨dl, ar, nu, ht⟩ := h.txn
  have kk : ∀ {b : Nat} {o : Obj}, w.heap[b]? = some o → w'.heap[b]? = some o := fun hb => by rw [k.block _ (Array.getElem?_eq_some_iff.1 hb).1, hb]
  exact ⟨kk h.coh, ⟨dl, ar, nu, kk ht⟩, kk h.cohs⟩
theorem Lies.drew {w : World} {sb c tb cb : Nat} {ph : Int} {lend : Bool} {loans : Value} (h : Lies w sb c tb cb ph lend loans) (k : Nat) : Lies (w.drewN k) sb c tb cb ph lend loans := ⟨h.coh, h.txn, h.cohs⟩

/-- a store of what was there. -/
theorem below_same {w : World} {c : Nat} {arr : Array Value} {t : TypeId} (h : w.heap[c]? = some (.cells arr t (0, 0))) (o : Nat) (v : Value) (hv : arr[o]? = some v) : Below w.heap.size w (w.setCell ⟨c, o, none⟩ v) := by
  refine ⟨rfl, rfl, rfl, by simp [World.setCell], fun k hk => ?_⟩
  by_cases e : k = c
  · subst e
    rw [heap_setCell_same w k o arr t v h, h]
    have hlt : o < arr.size := (Array.getElem?_eq_some_iff.1 hv).1
    have he : arr.setIfInBounds o v = arr := by
      apply Array.ext_getElem?
      intro i
      by_cases hi : i = o
      · subst hi; rw [Array.getElem?_setIfInBounds_self, if_pos hlt, hv]
      · rw [Array.getElem?_setIfInBounds_ne (Ne.symm hi)]
    rw [he]
  · exact Below.heap_setCell _ _ _ _ e

theorem neq_nil (w : World) : (binOp .neq 1 .nilFunc .nilFunc).run Yba.prog w = .ok (.bool false) w := by kernel_rfl
theorem drop_is (c : Nat) (w : World) (h : w.cell? ⟨c, 10, none⟩ = some (.slice none 0 0)) (hf : w.frozen? ⟨c, 10, none⟩ = false) :
    Calls Yba.prog 53 #[.pointer (some ⟨c, 0, none⟩)] w fun e w' => e = .returned (.tuple #[]) ∧ w' = w.setCell ⟨c, 10, none⟩ (.slice none 0 0) := by
  go_enter Yba.func53, Yba.ntmps53
  go_wp2
  go_end0
  exact ⟨rfl, rfl⟩

set_option maxRecDepth 100000 in
set_option maxHeartbeats 1000000 in
theorem abandon_is (sb c tb cb : Nat) (ph : Int) (lend : Bool) (loans : Value) (w : World) (h : Lies w sb c tb cb ph lend loans) :
    Calls Yba.prog 47 #[.pointer (some ⟨c, 0, none⟩)] w fun e w' => e = .returned (.tuple #[]) ∧ Below w.heap.size w w' := by
  have c5 : w.cell? ⟨c, 5, none⟩ = some (.bool false) := by rw [cell_of_row _ _ _ _ _ _ h.coh]; rfl
  have c6 : w.cell? ⟨c, 6, none⟩ = some .nilFunc := by rw [cell_of_row _ _ _ _ _ _ h.coh]; rfl
  have c7 : w.cell? ⟨c, 7, none⟩ = some .nilFunc := by rw [cell_of_row _ _ _ _ _ _ h.coh]; rfl
  have c10 : w.cell? ⟨c, 10, none⟩ = some (.slice none 0 0) := by rw [cell_of_row _ _ _ _ _ _ h.coh]; rfl
  have f10 : w.frozen? ⟨c, 10, none⟩ = false := frozen_of_row w c 10 _ 83 h.coh
  have hb := below_same h.coh 10 (.slice none 0 0) rfl
  have H : Hid (Lies w sb c tb cb ph lend loans) := h
  have HB : Hid (Below w.heap.size w (w.setCell ⟨c, 10, none⟩ (.slice none 0 0))) := hb
  clear h hb
  have hnf := neq_nil
  go_enter Yba.func47, Yba.ntmps47
  go_wp2_with fail
  with_reducible refine (drop_is c w c10 f10).mono ?_
  rintro e w1 ⟨rfl, rfl⟩
  have H1 : Hid (Lies (w.setCell ⟨c, 10, none⟩ (.slice none 0 0)) sb c tb cb ph lend loans) := H.out.below HB.out
  clear c5 c6 c7 c10 f10
  generalize w.setCell ⟨c, 10, none⟩ (.slice none 0 0) = W at *
  go_wp2_with fail
  with_reducible refine (release_is c tb cb 1 W H1.out.idle).mono ?_
  rintro e w2 ⟨rfl, k2, rfl⟩
  go_wp2_with fail
  with_reducible refine (undo_is c tb cb _ (H1.out.drew k2).idle).mono ?_
  rintro e w3 ⟨rfl, k3, rfl⟩
  go_wp2_with fail
  with_reducible refine (release_is c tb cb 2 _ (H1.out.drew (k2 + k3)).idle).mono ?_
  rintro e w4 ⟨rfl, k4, rfl⟩
  go_wp2
  go_end0
  exact ⟨rfl, HB.out.os, HB.out.tape, HB.out.output, HB.out.size, HB.out.block⟩
end Go.Proofs.Ybulkboha
