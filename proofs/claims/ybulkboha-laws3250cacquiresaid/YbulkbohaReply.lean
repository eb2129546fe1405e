import Derived.Test.YbulkbohaSend
namespace Go.Proofs.Ybulkboha
open Go.RowKit
set_option linter.unusedVariables false

theorem info138 : (Yba.prog.info? 138).map (·.size) = some 2 := by kernel_rfl
set_option maxHeartbeats 1000000 in
theorem key_is (c tb cb : Nat) (w : World) (h : Idle w c tb cb) :
    Calls Yba.prog 58 #[.pointer (some ⟨c, 0, none⟩)] w fun e w' => e = .returned (.agg #[.pointer (some ⟨tb, 0, none⟩), .int .i64 0]) ∧ Below w.heap.size w w' := by
  have h1 := h.tx
  have h2 := h.ix
  have hlt : c < w.heap.size := block_lt_of_cell h1
  clear h
  go_enter Yba.func58, Yba.ntmps58
  go_upto_region 1 with fail
  go_region
  go_wp2
  exact bodyPost_ret (v := .agg #[.pointer (some ⟨tb, 0, none⟩), .int .i64 0]) (results_cell_row Yba.results58 _ _ w.heap.size 138 _ (0, 0) _ rfl (heap_alloc_new _ _) Yba.underlying138 rfl info138) rfl ⟨rfl, ((Below.refl _ _).alloc (Nat.le_refl _) _).drew⟩

theorem Chg.keep {S : Nat → Prop} {W W' : World} (c : Chg S W W') {p : Addr} {v : Value} (hn : ¬ S p.block) (h : W.cell? p = some v) : W'.cell? p = some v := by
  have e := c.block p.block (block_lt_of_cell h) hn
  rw [← h]
  unfold World.cell?
  rw [e]
theorem keep5c {W W' : World} {hb : Nat} (c : Chg (· = hb) W W') {p1 p2 p3 p4 p5 : Addr} {v1 v2 v3 v4 v5 : Value} (n1 : p1.block ≠ hb) (n2 : p2.block ≠ hb) (n3 : p3.block ≠ hb) (n4 : p4.block ≠ hb) (n5 : p5.block ≠ hb)
    (h : W.cell? p1 = some v1 ∧ W.cell? p2 = some v2 ∧ W.cell? p3 = some v3 ∧ W.cell? p4 = some v4 ∧ W.cell? p5 = some v5) :
    W'.cell? p1 = some v1 ∧ W'.cell? p2 = some v2 ∧ W'.cell? p3 = some v3 ∧ W'.cell? p4 = some v4 ∧ W'.cell? p5 = some v5 :=
  ⟨c.keep n1 h.1, c.keep n2 h.2.1, c.keep n3 h.2.2.1, c.keep n4 h.2.2.2.1, c.keep n5 h.2.2.2.2⟩
theorem Site.drew {w : World} {sb hb mb : Nat} {fr ct : Value} {cf ac la bo se en ot : Int} (h : Site w sb hb mb fr cf ct ac la bo se en ot) : Site w.drew sb hb mb fr cf ct ac la bo se en ot := ⟨h.site, h.host⟩

set_option maxRecDepth 100000 in
set_option maxHeartbeats 1000000 in
theorem reply_is (sb c tb cb hb mb : Nat) (fr ct loans : Value) (k ph cf ac la bo se en ot : Int) (lend : Bool) (w : World) (L : Lies w sb c tb cb ph lend loans) (S : Site w sb hb mb fr cf ct ac la bo se en ot)
    (hc : c ≠ hb) (ht : tb ≠ hb) (hcb : cb ≠ hb) (h1 : 0 ≤ se) (h2 : se < 100000) :
    Calls Yba.prog 48 #[.pointer (some ⟨c, 0, none⟩), .int .u8 k] w fun e w' => e = .returned (.tuple #[]) ∧ Chg (· = hb) w w' ∧ Site w' sb hb mb fr cf ct ac la bo (se + 1) en ot := by
  have I := L.idle
  have c0 : w.cell? ⟨c, 0, none⟩ = some (.pointer (some ⟨sb, 0, none⟩)) := by rw [cell_of_row _ _ _ _ _ _ L.coh]; rfl
  have c1 := I.tx
  have c2 := I.ix
  have t5 := I.co
  have b0 := I.si
  have HM : Hid (Calls Yba.prog 57 #[.pointer (some ⟨tb, 0, none⟩)] w.drew fun e w' => e = .returned (.int .i64 0) ∧ w' = w.drew) := master_is c tb cb w.drew ⟨I.tx, I.ix, I.lk, I.co, I.si, I.pg⟩
  have HP : Hid (Calls Yba.prog 56 #[.pointer (some ⟨sb, 0, none⟩), .int .i64 0, .agg #[.int .u8 k, .pointer (some ⟨tb, 0, none⟩), .int .i64 0, .bool false]] w.drew fun e w' => e = .returned (.tuple #[]) ∧ Chg (· = hb) w.drew w' ∧ Site w' sb hb mb fr cf ct ac la bo (se + 1) en ot) :=
    send_is sb hb mb tb fr ct k cf ac la bo se en ot w.drew S.drew h1 h2
  clear L S I
  go_enter Yba.func48, Yba.ntmps48
  go_upto_region 0 with fail
  go_region_held3 (fun w' => w'.cell? ⟨c, 0, none⟩ = some (.pointer (some ⟨sb, 0, none⟩)) ∧ w'.cell? ⟨c, 1, none⟩ = some (.pointer (some ⟨tb, 0, none⟩)) ∧ w'.cell? ⟨c, 2, none⟩ = some (.int .i64 0) ∧ w'.cell? ⟨tb, 5, none⟩ = some (.slice (some ⟨cb, 0, none⟩) 1 1) ∧ w'.cell? ⟨cb, 0, none⟩ = some (.int .i64 0))
    (first | exact ⟨c0, c1, c2, t5, b0⟩ | exact keep5c (by assumption) hc hc hc ht hcb (by assumption))
    ((first
      | (go_at_call 57; with_reducible refine HM.out.mono ?_; rintro e w1 ⟨rfl, rfl⟩)
      | (go_at_call 56; with_reducible refine HP.out.mono ?_; rintro e w2 ⟨rfl, hc2, hS2⟩)))
  go_wp2
  go_end0
  exact ⟨rfl, ⟨hc2.os, hc2.tape, hc2.output, hc2.size, hc2.block⟩, hS2⟩
end Go.Proofs.Ybulkboha
