import Derived.Test.YbulkbohaGrant
namespace Go.Proofs.Ybulkboha
open Go.RowKit
set_option linter.unusedVariables false

/-- what is held while the region runs. -/
@[reducible] def HeldLg (c sb : Nat) (a0 a1 a2 a4 s0 : Value) (W : World) : Prop := W.cell? ⟨c, 0, none⟩ = some a0 ∧ W.cell? ⟨c, 1, none⟩ = some a1 ∧ W.cell? ⟨c, 2, none⟩ = some a2 ∧ W.cell? ⟨c, 4, none⟩ = some a4 ∧ W.cell? ⟨c, 7, none⟩ = some .nilFunc ∧ W.cell? ⟨c, 8, none⟩ = some .nilFunc ∧ W.cell? ⟨sb, 0, none⟩ = some s0 ∧ W.frozen? ⟨c, 7, none⟩ = false
theorem keepLg {W : World} {hb c sb : Nat} {v1 v2 : Value} {a0 a1 a2 a4 s0 : Value} (h1 : c ≠ hb) (h2 : sb ≠ hb) (h : HeldLg c sb a0 a1 a2 a4 s0 W) : HeldLg c sb a0 a1 a2 a4 s0 ((W.setCell ⟨hb, 2, none⟩ v1).setCell ⟨hb, 3, none⟩ v2) := by
  have k : Chg (· = hb) W ((W.setCell ⟨hb, 2, none⟩ v1).setCell ⟨hb, 3, none⟩ v2) := (chg_set W hb 2 v1).trans (chg_set _ hb 3 v2)
  exact ⟨k.keep h1 h.1, k.keep h1 h.2.1, k.keep h1 h.2.2.1, k.keep h1 h.2.2.2.1, k.keep h1 h.2.2.2.2.1, k.keep h1 h.2.2.2.2.2.1, k.keep h2 h.2.2.2.2.2.2.1, by rw [World.frozen?_setCell, World.frozen?_setCell]; exact h.2.2.2.2.2.2.2⟩
theorem keepLg7 {W : World} {c sb : Nat} {a0 a1 a2 a4 s0 : Value} (h2 : sb ≠ c) (h : HeldLg c sb a0 a1 a2 a4 s0 W) : HeldLg c sb a0 a1 a2 a4 s0 (W.setCell ⟨c, 7, none⟩ .nilFunc) := by
  obtain ⟨h0, h1, h3, h4, h5, h6, h7, h8⟩ := h
  have k : ∀ {q : Addr} {x : Value}, (⟨c, 7, none⟩ : Addr) ≠ q → W.cell? q = some x → (W.setCell ⟨c, 7, none⟩ .nilFunc).cell? q = some x := fun hq hx => by rw [World.cell?_setCell_other _ _ _ _ hq, hx]
  exact ⟨k (by simp) h0, k (by simp) h1, k (by simp) h3, k (by simp) h4, World.cell?_setCell_same _ _ _ h5, k (by simp) h6, k (fun h => h2 (by cases h)) h7, by rw [World.frozen?_setCell]; exact h8⟩

set_option maxRecDepth 100000 in
set_option maxHeartbeats 1000000 in
theorem lockGranted_is (r : Ent) (ph : Int) (lv : Value) (sb hb mb : Nat) (fr ct : Value) (cf ac la bo se en ot : Int) (w : World) (hR : Memb w sb r ph 1 false lv nilV) (S : Site w sb hb mb fr cf ct ac la bo se en ot)
    (hrl : hb + 2 < r.c ∧ sb + 2 < r.c) (h1 : 0 ≤ ac) (h2 : ac < 10) :
    Calls Yba.prog 33 #[.pointer (some ⟨r.c, 0, none⟩)] w fun e w' => e = .returned (.tuple #[]) ∧ Chg (fun k => k = hb ∨ k = r.c) w w' ∧ Memb w' sb r ph 1 false lv nilV ∧ Site w' sb hb mb fr cf ct (ac + 1) 0 bo se en ot := by
  have HR : Hid (Memb w sb r ph 1 false lv nilV) := hR
  have HS : Hid (Site w sb hb mb fr cf ct ac la bo se en ot) := S
  have c0 : w.cell? ⟨r.c, 0, none⟩ = some (.pointer (some ⟨sb, 0, none⟩)) := by rw [hR.cell]; rfl
  have c1 : w.cell? ⟨r.c, 1, none⟩ = some (.pointer (some ⟨r.c - 1, 0, none⟩)) := by rw [hR.cell]; rfl
  have c2 : w.cell? ⟨r.c, 2, none⟩ = some (.int .i64 0) := by rw [hR.cell]; rfl
  have c4 : w.cell? ⟨r.c, 4, none⟩ = some (.int .i64 1) := by rw [hR.cell]; rfl
  have c6 : w.cell? ⟨r.c, 6, none⟩ = some .nilFunc := by rw [hR.cell]; rfl
  have c7 : w.cell? ⟨r.c, 7, none⟩ = some .nilFunc := by rw [hR.cell]; rfl
  have c8 : w.cell? ⟨r.c, 8, none⟩ = some .nilFunc := by rw [hR.cell]; rfl
  have s0 : w.cell? ⟨sb, 0, none⟩ = some (.iface 46 (.pointer (some ⟨hb, 0, none⟩))) := by rw [cell_of_row _ _ _ _ _ _ S.site]; rfl
  have f7 := hR.free 7
  have hne := S.ne
  have hrc : r.c ≠ hb := by omega
  have HP : Hid (Calls Yba.prog 85 #[.pointer (some ⟨hb, 0, none⟩), .pointer (some ⟨r.c - 1, 0, none⟩), .int .i64 0, .int .i64 (IntKind.i64.wrap 0), .nilFunc] w.drew fun e w' => e = .returned .nilFunc ∧ w' = (w.drew.setCell ⟨hb, 2, none⟩ (.int .i64 (ac + 1))).setCell ⟨hb, 3, none⟩ (.int .i64 (IntKind.i64.wrap 0))) :=
    access85 hb _ 0 (IntKind.i64.wrap 0) ac la w.drew (by show w.cell? _ = _; rw [cell_of_row _ _ _ _ _ _ S.host]; rfl) (by show w.cell? _ = _; rw [cell_of_row _ _ _ _ _ _ S.host]; rfl) (frozen_of_row w hb 2 _ 49 S.host) (frozen_of_row w hb 3 _ 49 S.host) h1 (by omega)
  clear hR S
  have hnf := neq_nil
  have na := na_access
  have ms := m_access
  have hst : (store ⟨r.c, 7, none⟩ .nilFunc).run Yba.prog ((w.setCell ⟨hb, 2, none⟩ (.int .i64 (ac + 1))).setCell ⟨hb, 3, none⟩ (.int .i64 (IntKind.i64.wrap 0))).drew = .ok () (((w.setCell ⟨hb, 2, none⟩ (.int .i64 (ac + 1))).setCell ⟨hb, 3, none⟩ (.int .i64 (IntKind.i64.wrap 0))).drew.setCell ⟨r.c, 7, none⟩ .nilFunc) := by
    obtain ⟨d0, d1, d2, d4, d7, d8, d9, g7⟩ : HeldLg r.c sb _ _ _ _ _ _ := keepLg (v1 := .int .i64 (ac + 1)) (v2 := .int .i64 (IntKind.i64.wrap 0)) hrc hne ⟨c0, c1, c2, c4, c7, c8, s0, f7⟩
    generalize (w.setCell ⟨hb, 2, none⟩ (.int .i64 (ac + 1))).setCell ⟨hb, 3, none⟩ (.int .i64 (IntKind.i64.wrap 0)) = W at *
    rw [run_store Yba.prog W.drew ⟨r.c, 7, none⟩ .nilFunc _ rfl]
    have e1 : W.drew.cell? ⟨r.c, 7, none⟩ = some .nilFunc := d7
    have e2 : W.drew.frozen? ⟨r.c, 7, none⟩ = false := g7
    simp [e1, e2]
  go_enter Yba.func33, Yba.ntmps33
  go_upto_region 3 with fail
  clear c6 hnf
  have hsr : sb ≠ r.c := by omega
  have H0 : Hid (HeldLg r.c sb (.pointer (some ⟨sb, 0, none⟩)) (.pointer (some ⟨r.c - 1, 0, none⟩)) (.int .i64 0) (.int .i64 1) (.iface 46 (.pointer (some ⟨hb, 0, none⟩))) w.drew) := ⟨c0, c1, c2, c4, c7, c8, s0, f7⟩
  have H1 : Hid (HeldLg r.c sb (.pointer (some ⟨sb, 0, none⟩)) (.pointer (some ⟨r.c - 1, 0, none⟩)) (.int .i64 0) (.int .i64 1) (.iface 46 (.pointer (some ⟨hb, 0, none⟩))) ((w.setCell ⟨hb, 2, none⟩ (.int .i64 (ac + 1))).setCell ⟨hb, 3, none⟩ (.int .i64 (IntKind.i64.wrap 0))).drew) := keepLg hrc hne H0.out
  have H2 : Hid (HeldLg r.c sb (.pointer (some ⟨sb, 0, none⟩)) (.pointer (some ⟨r.c - 1, 0, none⟩)) (.int .i64 0) (.int .i64 1) (.iface 46 (.pointer (some ⟨hb, 0, none⟩))) (((w.setCell ⟨hb, 2, none⟩ (.int .i64 (ac + 1))).setCell ⟨hb, 3, none⟩ (.int .i64 (IntKind.i64.wrap 0))).setCell ⟨r.c, 7, none⟩ .nilFunc).drew) := keepLg7 hsr H1.out
  go_region_held3 (fun w' => w'.cell? ⟨r.c, 0, none⟩ = some (.pointer (some ⟨sb, 0, none⟩)) ∧ w'.cell? ⟨r.c, 1, none⟩ = some (.pointer (some ⟨r.c - 1, 0, none⟩)) ∧ w'.cell? ⟨r.c, 2, none⟩ = some (.int .i64 0) ∧ w'.cell? ⟨r.c, 4, none⟩ = some (.int .i64 1) ∧ w'.cell? ⟨r.c, 7, none⟩ = some .nilFunc ∧ w'.cell? ⟨r.c, 8, none⟩ = some .nilFunc ∧ w'.cell? ⟨sb, 0, none⟩ = some (.iface 46 (.pointer (some ⟨hb, 0, none⟩))) ∧ w'.frozen? ⟨r.c, 7, none⟩ = false)
    (first | with_reducible exact H0.out | with_reducible exact H1.out | with_reducible exact H2.out)
    ((go_at_call 85; with_reducible refine HP.out.mono ?_; rintro e w1 ⟨rfl, rfl⟩))
  go_wp2
  go_end0
  have cS : Chg (fun k => k = hb ∨ k = r.c) w (((w.setCell ⟨hb, 2, none⟩ (.int .i64 (ac + 1))).setCell ⟨hb, 3, none⟩ (.int .i64 (IntKind.i64.wrap 0))).setCell ⟨r.c, 7, none⟩ .nilFunc) :=
    (((chg_set w hb 2 _).mono (fun q _ h => .inl h)).trans ((chg_set _ hb 3 _).mono (fun q _ h => .inl h))).trans ((chg_set _ r.c 7 _).mono (fun q _ h => .inr h))
  have c1 : Chg (· = hb) w ((w.setCell ⟨hb, 2, none⟩ (.int .i64 (ac + 1))).setCell ⟨hb, 3, none⟩ (.int .i64 (IntKind.i64.wrap 0))) := (chg_set w hb 2 _).trans (chg_set _ hb 3 _)
  have hlow := HR.out.low
  have M1 := (HR.out.chg c1 (by omega) (by omega) (by omega)).setTo 7 .nilFunc (ph' := ph) (lk' := 1) (lw' := false) (ls' := lv) (lo' := nilV) rfl
  refine ⟨rfl, ⟨cS.os, cS.tape, cS.output, cS.size, cS.block⟩, ⟨M1.coh, M1.txn, M1.cohs, M1.low⟩, ⟨cS.heap HS.out.site (by omega), ?_⟩⟩
  show (((w.setCell ⟨hb, 2, none⟩ (.int .i64 (ac + 1))).setCell ⟨hb, 3, none⟩ (.int .i64 (IntKind.i64.wrap 0))).setCell ⟨r.c, 7, none⟩ .nilFunc).heap[hb]? = _
  rw [Below.heap_setCell _ _ _ _ (by show hb ≠ r.c; omega), heap_setCell_same _ hb 3 _ 49 _ (heap_setCell_same w hb 2 _ 49 _ HS.out.host)]
  rfl
end Go.Proofs.Ybulkboha
