import Derived.Test.YbulkbohaHost
import Derived.Test.YbulkbohaTab
namespace Go.Proofs.Ybulkboha
open Go.RowKit
set_option linter.unusedVariables false

theorem free_is (k : Int) (w : World) :
    Calls Yba.prog 64 #[.agg #[.bool false, .bool false, .bool false, .bool false, .bool false, .bool false, .bool false], .int .u8 k] w fun e w' => e = .returned (.bool false) ∧ Below w.heap.size w w' := by
  go_enter Yba.func64, Yba.ntmps64
  go_wp2
  go_ret
  exact ⟨rfl, (Below.refl _ _).alloc (Nat.le_refl _) _⟩

theorem Site.below {w w' : World} {sb hb mb : Nat} {fr ct : Value} {cf ac la bo se en ot : Int} (h : Site w sb hb mb fr cf ct ac la bo se en ot) (k : Below w.heap.size w w') : Site w' sb hb mb fr cf ct ac la bo se en ot := by
  have kk : ∀ {b : Nat} {o : Obj}, w.heap[b]? = some o → w'.heap[b]? = some o := fun hb => by rw [k.block _ (Array.getElem?_eq_some_iff.1 hb).1, hb]
  exact ⟨kk h.site, kk h.host⟩
theorem Site.ne {w : World} {sb hb mb : Nat} {fr ct : Value} {cf ac la bo se en ot : Int} (h : Site w sb hb mb fr cf ct ac la bo se en ot) : sb ≠ hb := by
  intro e
  have h1 := h.site
  rw [e, h.host] at h1
  simp at h1
theorem keep5s {W : World} {hb : Nat} {v : Value} {A : Obj} {o : Nat} {p1 p2 p3 p4 p5 : Addr} {v1 v2 v3 v4 v5 : Value} (n1 : p1.block ≠ hb) (n2 : p2.block ≠ hb) (n3 : p3.block ≠ hb) (n4 : p4.block ≠ hb) (n5 : p5.block ≠ hb)
    (h : W.cell? p1 = some v1 ∧ W.cell? p2 = some v2 ∧ W.cell? p3 = some v3 ∧ W.cell? p4 = some v4 ∧ W.cell? p5 = some v5) :
    ((W.setCell ⟨hb, o, none⟩ v).alloc A).cell? p1 = some v1 ∧ ((W.setCell ⟨hb, o, none⟩ v).alloc A).cell? p2 = some v2 ∧ ((W.setCell ⟨hb, o, none⟩ v).alloc A).cell? p3 = some v3 ∧ ((W.setCell ⟨hb, o, none⟩ v).alloc A).cell? p4 = some v4 ∧ ((W.setCell ⟨hb, o, none⟩ v).alloc A).cell? p5 = some v5 := by
  have hsz : (W.setCell ⟨hb, o, none⟩ v).heap.size = W.heap.size := by simp [World.setCell]
  have k : ∀ {p : Addr} {x : Value}, p.block ≠ hb → W.cell? p = some x → ((W.setCell ⟨hb, o, none⟩ v).alloc A).cell? p = some x := by
    intro p x hn hx
    have hlt := block_lt_of_cell hx
    have e : ((W.setCell ⟨hb, o, none⟩ v).alloc A).heap[p.block]? = W.heap[p.block]? := by
      rw [Below.heap_alloc _ _ _ (by omega), Below.heap_setCell _ _ _ _ hn]
    rw [← hx]
    unfold World.cell?
    rw [e]
  exact ⟨k n1 h.1, k n2 h.2.1, k n3 h.2.2.1, k n4 h.2.2.2.1, k n5 h.2.2.2.2⟩

theorem chg_setAlloc (w : World) (hb o : Nat) (v : Value) (A : Obj) : Chg (· = hb) w ((w.setCell ⟨hb, o, none⟩ v).alloc A) := by
  have h1 : Chg (· = hb) w (w.setCell ⟨hb, o, none⟩ v) := ⟨rfl, rfl, rfl, by simp [World.setCell], fun k _ hk => Below.heap_setCell _ _ _ _ hk⟩
  exact h1.trans (Chg.of_below ((Below.refl _ _).alloc (Nat.le_refl _) _))
set_option maxRecDepth 100000 in
set_option maxHeartbeats 1000000 in
theorem send_is (sb hb mb t : Nat) (fr ct : Value) (k cf ac la bo se en ot : Int) (w : World) (S : Site w sb hb mb fr cf ct ac la bo se en ot) (h1 : 0 ≤ se) (h2 : se < 100000) :
    Calls Yba.prog 56 #[.pointer (some ⟨sb, 0, none⟩), .int .i64 0, .agg #[.int .u8 k, .pointer (some ⟨t, 0, none⟩), .int .i64 0, .bool false]] w fun e w' => e = .returned (.tuple #[]) ∧ Chg (· = hb) w w' ∧ Site w' sb hb mb fr cf ct ac la bo (se + 1) en ot := by
  have HS : Hid (Site w sb hb mb fr cf ct ac la bo se en ot) := S
  have s0 : w.cell? ⟨sb, 0, none⟩ = some (.iface 46 (.pointer (some ⟨hb, 0, none⟩))) := by rw [cell_of_row _ _ _ _ _ _ S.site]; rfl
  have hz : ∀ j, j < 7 → w.cell? ⟨sb, 6 + j, none⟩ = some (.bool false) := by
    intro j hj
    rw [cell_of_row _ _ _ _ _ _ S.site]
    have : j = 0 ∨ j = 1 ∨ j = 2 ∨ j = 3 ∨ j = 4 ∨ j = 5 ∨ j = 6 := by omega
    rcases this with rfl | rfl | rfl | rfl | rfl | rfl | rfl <;> rfl
  have s6 := hz 0 (by omega)
  have s7 := hz 1 (by omega)
  have s8 := hz 2 (by omega)
  have s9 := hz 3 (by omega)
  have s10 := hz 4 (by omega)
  have s11 := hz 5 (by omega)
  have s12 := hz 6 (by omega)
  have hsl : sb < w.heap.size := block_lt_of_cell s0
  clear S hz
  go_enter Yba.func56, Yba.ntmps56
  go_upto_region 1 with fail
  go_cut [12] (fun v wx => v = .bool false ∧ Below w.heap.size w wx ∧ wx.cell? ⟨w.heap.size, 0, none⟩ = some (.int .u8 k) ∧ wx.cell? ⟨w.heap.size, 1, none⟩ = some (.pointer (some ⟨t, 0, none⟩)) ∧ wx.cell? ⟨w.heap.size, 2, none⟩ = some (.int .i64 0) ∧ wx.cell? ⟨w.heap.size, 3, none⟩ = some (.bool false))
  case first =>
    have hB1 : ∀ A, Below w.heap.size w (w.alloc A) := fun A => (Below.refl _ _).alloc (Nat.le_refl _) _
    go_region_held3 (fun w' => w'.cell? ⟨sb, 6, none⟩ = some (.bool false) ∧ w'.cell? ⟨sb, 7, none⟩ = some (.bool false) ∧ w'.cell? ⟨sb, 8, none⟩ = some (.bool false) ∧ w'.cell? ⟨sb, 9, none⟩ = some (.bool false) ∧ w'.cell? ⟨sb, 10, none⟩ = some (.bool false) ∧
        w'.cell? ⟨sb, 11, none⟩ = some (.bool false) ∧ w'.cell? ⟨sb, 12, none⟩ = some (.bool false) ∧ w'.cell? ⟨w.heap.size, 0, none⟩ = some (.int .u8 k))
      (first | exact ⟨(hB1 _).keep s6, (hB1 _).keep s7, (hB1 _).keep s8, (hB1 _).keep s9, (hB1 _).keep s10, (hB1 _).keep s11, (hB1 _).keep s12, by simp⟩ | exact keep8 (by assumption) (by assumption))
      ((go_at_call 64; with_reducible refine (free_is _ _).mono ?_; rintro e w1 ⟨rfl, hb1⟩))
    go_wp2
    go_meet
    case rel => exact ⟨rfl, (hB1 _).drew.next hb1, hb1.keep (by simp), hb1.keep (by simp), hb1.keep (by simp), hb1.keep (by simp)⟩
  case rest =>
    obtain ⟨rfl, hB, b0, b1, b2, b3⟩ := hcut
    have S2 := HS.out.below hB
    have HP : Hid (Calls Yba.prog 90 #[.pointer (some ⟨hb, 0, none⟩), .int .i64 0, .agg #[.int .u8 k, .pointer (some ⟨t, 0, none⟩), .int .i64 0, .bool false]] wc.drew fun e w' => e = .returned (.tuple #[]) ∧ ∃ A, w' = (wc.drew.setCell ⟨hb, 5, none⟩ (.int .i64 (se + 1))).alloc A) :=
      send90 hb k 0 t 0 se wc.drew (by show wc.cell? _ = _; rw [cell_of_row _ _ _ _ _ _ S2.host]; rfl) (frozen_of_row wc hb 5 _ 49 S2.host) h1 h2
    have hs0 := hB.keep s0
    have hne : sb ≠ hb := S2.ne
    have hlb : w.heap.size ≠ hb := by have := (Array.getElem?_eq_some_iff.1 HS.out.host).1; omega
    have HS2 : Hid (Site wc sb hb mb fr cf ct ac la bo se en ot) := S2
    clear s0 s6 s7 s8 s9 s10 s11 s12 S2
    have na := na_send
    have ms := m_send
    go_upto_region 3 with fail
    go_region_held3 (fun w' => w'.cell? ⟨sb, 0, none⟩ = some (.iface 46 (.pointer (some ⟨hb, 0, none⟩))) ∧ w'.cell? ⟨w.heap.size, 0, none⟩ = some (.int .u8 k) ∧ w'.cell? ⟨w.heap.size, 1, none⟩ = some (.pointer (some ⟨t, 0, none⟩)) ∧ w'.cell? ⟨w.heap.size, 2, none⟩ = some (.int .i64 0) ∧ w'.cell? ⟨w.heap.size, 3, none⟩ = some (.bool false))
      (first | exact ⟨hs0, b0, b1, b2, b3⟩ | exact keep5s hne hlb hlb hlb hlb (by assumption))
      ((go_at_call 90; with_reducible refine HP.out.mono ?_; rintro e w1 ⟨rfl, A, rfl⟩))
    go_wp2
    go_end0
    have hc0 := chg_setAlloc wc hb 5 (.int .i64 (se + 1)) A
    have hc : Chg (· = hb) wc ((wc.setCell ⟨hb, 5, none⟩ (.int .i64 (se + 1))).alloc A).drew := ⟨hc0.os, hc0.tape, hc0.output, hc0.size, hc0.block⟩
    refine ⟨rfl, (Chg.of_below hB).trans hc, ⟨hc.heap HS2.out.site hne, ?_⟩⟩
    have hl : hb < wc.heap.size := (Array.getElem?_eq_some_iff.1 HS2.out.host).1
    have e1 : (wc.setCell ⟨hb, 5, none⟩ (.int .i64 (se + 1))).heap[hb]? = _ := heap_setCell_same wc hb 5 _ 49 (.int .i64 (se + 1)) HS2.out.host
    show ((wc.setCell ⟨hb, 5, none⟩ (.int .i64 (se + 1))).alloc A).heap[hb]? = _
    rw [Below.heap_alloc _ _ _ (by simpa [World.setCell] using hl), e1]
    rfl
end Go.Proofs.Ybulkboha
