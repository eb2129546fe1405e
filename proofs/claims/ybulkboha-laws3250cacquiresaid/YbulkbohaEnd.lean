import Derived.Test.YbulkbohaReply
namespace Go.Proofs.Ybulkboha
open Go.RowKit
set_option linter.unusedVariables false
theorem del_nil (ty : TypeId) (tb : Nat) (w : World) : (Builtin.delete_ #[66, 138] ty #[.map none, .agg #[.pointer (some ⟨tb, 0, none⟩), .int .i64 0]]).run Yba.prog w = .ok (.tuple #[]) w := by kernel_rfl

theorem Site.chg {S : Nat → Prop} {w w' : World} {sb hb mb : Nat} {fr ct : Value} {cf ac la bo se en ot : Int} (h : Site w sb hb mb fr cf ct ac la bo se en ot) (k : Chg S w w') (h1 : ¬ S sb) (h2 : ¬ S hb) : Site w' sb hb mb fr cf ct ac la bo se en ot := ⟨k.heap h.site h1, k.heap h.host h2⟩
theorem chg_set (w : World) (b o : Nat) (v : Value) : Chg (· = b) w (w.setCell ⟨b, o, none⟩ v) := ⟨rfl, rfl, rfl, by simp [World.setCell], fun k _ hk => Below.heap_setCell _ _ _ _ hk⟩
theorem Lies.phase {w : World} {sb c tb cb : Nat} {ph : Int} {lend : Bool} {loans : Value} (h : Lies w sb c tb cb ph lend loans) (p : Int) (h1 : tb ≠ c) (h2 : cb ≠ c) : Lies (w.setCell ⟨c, 3, none⟩ (.int .u8 p)) sb c tb cb p lend loans := by
  obtain ⟨dl, ar, nu, ht⟩ := h.txn
  refine ⟨?_, ⟨dl, ar, nu, (chg_set w c 3 _).heap ht h1⟩, (chg_set w c 3 _).heap h.cohs h2⟩
  rw [heap_setCell_same w c 3 _ 83 (.int .u8 p) h.coh]
  rfl

theorem keep4c {W W' : World} {hb : Nat} (c : Chg (· = hb) W W') {p1 p2 p3 p4 : Addr} {v1 v2 v3 v4 : Value} (n1 : p1.block ≠ hb) (n2 : p2.block ≠ hb) (n3 : p3.block ≠ hb) (n4 : p4.block ≠ hb)
    (h : W.cell? p1 = some v1 ∧ W.cell? p2 = some v2 ∧ W.cell? p3 = some v3 ∧ W.cell? p4 = some v4) :
    W'.cell? p1 = some v1 ∧ W'.cell? p2 = some v2 ∧ W'.cell? p3 = some v3 ∧ W'.cell? p4 = some v4 :=
  ⟨c.keep n1 h.1, c.keep n2 h.2.1, c.keep n3 h.2.2.1, c.keep n4 h.2.2.2⟩

set_option maxRecDepth 100000 in
set_option maxHeartbeats 1000000 in
theorem end_is (sb c tb cb hb mb : Nat) (fr ct loans : Value) (o ph cf ac la bo se en ot : Int) (lend : Bool) (w : World) (L : Lies w sb c tb cb ph lend loans) (S : Site w sb hb mb fr cf ct ac la bo se en ot)
    (hc : c ≠ hb) (ht : tb ≠ hb) (hcb : cb ≠ hb) (hs : c ≠ sb) (htc : tb ≠ c) (hcc : cb ≠ c) (h1 : 0 ≤ en) (h2 : en < 100000) :
    Calls Yba.prog 49 #[.pointer (some ⟨c, 0, none⟩), .int .u8 o] w fun e w' => e = .returned (.tuple #[]) ∧ Chg (fun k => k = c ∨ k = hb) w w' ∧ Lies w' sb c tb cb 11 lend loans ∧ Site w' sb hb mb fr cf ct ac la bo se (en + 1) ot := by
  have c9 : w.cell? ⟨c, 9, none⟩ = some .nilFunc := by rw [cell_of_row _ _ _ _ _ _ L.coh]; rfl
  have c3 : w.cell? ⟨c, 3, none⟩ = some (.int .u8 ph) := by rw [cell_of_row _ _ _ _ _ _ L.coh]; rfl
  have f3 : w.frozen? ⟨c, 3, none⟩ = false := frozen_of_row w c 3 _ 83 L.coh
  have HL : Hid (Lies (w.setCell ⟨c, 3, none⟩ (.int .u8 11)) sb c tb cb 11 lend loans) := L.phase 11 htc hcc
  have HS : Hid (Site (w.setCell ⟨c, 3, none⟩ (.int .u8 11)) sb hb mb fr cf ct ac la bo se en ot) := S.chg (chg_set w c 3 _) (fun h => hs h.symm) (fun h => hc h.symm)
  have HC : Hid (Chg (· = c) w (w.setCell ⟨c, 3, none⟩ (.int .u8 11))) := chg_set w c 3 _
  clear L S
  have hnf := neq_nil
  go_enter Yba.func49, Yba.ntmps49
  go_upto_region 4 with fail
  clear c9 c3 f3
  generalize w.setCell ⟨c, 3, none⟩ (.int .u8 11) = W at *
  have I := HL.out.idle
  have c0 : W.cell? ⟨c, 0, none⟩ = some (.pointer (some ⟨sb, 0, none⟩)) := by rw [cell_of_row _ _ _ _ _ _ HL.out.coh]; rfl
  have s0 : W.cell? ⟨sb, 0, none⟩ = some (.iface 46 (.pointer (some ⟨hb, 0, none⟩))) := by rw [cell_of_row _ _ _ _ _ _ HS.out.site]; rfl
  have c1 := I.tx
  have c2 := I.ix
  have HP : Hid (Calls Yba.prog 88 #[.pointer (some ⟨hb, 0, none⟩), .pointer (some ⟨tb, 0, none⟩), .int .i64 0, .int .u8 o] W.drew fun e w' => e = .returned (.tuple #[]) ∧ w' = W.drew.setCell ⟨hb, 6, none⟩ (.int .i64 (en + 1))) :=
    ended_is hb _ 0 o en W.drew (by show W.cell? _ = _; rw [cell_of_row _ _ _ _ _ _ HS.out.host]; rfl) (frozen_of_row W hb 6 _ 49 HS.out.host) h1 h2
  have hne := HS.out.ne
  clear I
  have na := na_ended
  have ms := m_ended
  go_cut [] (fun wx => Chg (· = hb) W wx ∧ Site wx sb hb mb fr cf ct ac la bo se (en + 1) ot)
  case first =>
    go_region_held3 (fun w' => w'.cell? ⟨c, 0, none⟩ = some (.pointer (some ⟨sb, 0, none⟩)) ∧ w'.cell? ⟨c, 1, none⟩ = some (.pointer (some ⟨tb, 0, none⟩)) ∧ w'.cell? ⟨c, 2, none⟩ = some (.int .i64 0) ∧ w'.cell? ⟨sb, 0, none⟩ = some (.iface 46 (.pointer (some ⟨hb, 0, none⟩))))
      (first | exact ⟨c0, c1, c2, s0⟩ | exact keep4c (chg_set _ _ _ _) hc hc hc hne (by assumption))
      ((go_at_call 88; with_reducible refine HP.out.mono ?_; rintro e w1 ⟨rfl, rfl⟩))
    go_wp2
    go_meet
    case rel =>
      have hc0 := chg_set W hb 6 (.int .i64 (en + 1))
      have hcd : Chg (· = hb) W (W.setCell ⟨hb, 6, none⟩ (.int .i64 (en + 1))).drew := ⟨hc0.os, hc0.tape, hc0.output, hc0.size, hc0.block⟩
      refine ⟨hcd, ⟨hcd.heap HS.out.site hne, ?_⟩⟩
      show (W.setCell ⟨hb, 6, none⟩ (.int .i64 (en + 1))).heap[hb]? = _
      rw [heap_setCell_same W hb 6 _ 49 (.int .i64 (en + 1)) HS.out.host]
      rfl
  case rest =>
    obtain ⟨hC2, hS2⟩ := hcut
    obtain ⟨W2, hW2⟩ : ∃ W2, W2 = wc := ⟨_, rfl⟩
    subst hW2
    have HL2 : Hid (Lies W2 sb c tb cb 11 lend loans) := by
      obtain ⟨dl, ar, nu, htx⟩ := HL.out.txn
      exact ⟨hC2.heap HL.out.coh hc, ⟨dl, ar, nu, hC2.heap htx ht⟩, hC2.heap HL.out.cohs hcb⟩
    have HC2 : Hid (Chg (· = hb) W W2) := hC2
    have HS2 : Hid (Site W2 sb hb mb fr cf ct ac la bo se (en + 1) ot) := hS2
    have I := HL2.out.idle
    have d0 : W2.cell? ⟨c, 0, none⟩ = some (.pointer (some ⟨sb, 0, none⟩)) := by rw [cell_of_row _ _ _ _ _ _ HL2.out.coh]; rfl
    have d14 : W2.cell? ⟨sb, 14, none⟩ = some (.map none) := by rw [cell_of_row _ _ _ _ _ _ hS2.site]; rfl
    have HK : Hid (Calls Yba.prog 58 #[.pointer (some ⟨c, 0, none⟩)] W2.drew fun e w' => e = .returned (.agg #[.pointer (some ⟨tb, 0, none⟩), .int .i64 0]) ∧ Below W2.drew.heap.size W2.drew w') := key_is c tb cb W2.drew ⟨I.tx, I.ix, I.lk, I.co, I.si, I.pg⟩
    clear c0 c1 c2 s0 HP HL HS hC2 hS2 I na ms
    have hdel := del_nil
    go_upto_region 5 with fail
    go_region_held3 (fun w' => w'.cell? ⟨c, 0, none⟩ = some (.pointer (some ⟨sb, 0, none⟩)) ∧ w'.cell? ⟨sb, 14, none⟩ = some (.map none))
      (first | exact ⟨d0, d14⟩ | assumption | exact ⟨Below.keep (by assumption) (And.left (by assumption)), Below.keep (by assumption) (And.right (by assumption))⟩)
      ((go_at_call 58; with_reducible refine HK.out.mono ?_; rintro e w1 ⟨rfl, hb1⟩))
    go_wp2
    go_end0
    have hB1 : Below W2.heap.size W2 w1 := ⟨hb1.os, hb1.tape, hb1.output, hb1.size, hb1.block⟩
    refine ⟨rfl, ?_, HL2.out.below hB1, HS2.out.below hB1⟩
    exact ((HC.out.mono (fun k _ h => .inl h)).trans (HC2.out.mono (fun k _ h => .inr h))).trans (Chg.of_below hB1)
end Go.Proofs.Ybulkboha
