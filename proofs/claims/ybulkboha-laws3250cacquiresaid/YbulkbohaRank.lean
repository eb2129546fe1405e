import Derived.Test.YbulkbohaCoh
namespace Go.Proofs.Ybulkboha
open Go.RowKit
set_option linter.unusedVariables false

theorem _root_.Go.RowKit.Below.next {w W W' : World} (h : Below w.heap.size w W) (h' : Below W.heap.size W W') : Below w.heap.size w W' :=
  ⟨h'.os.trans h.os, h'.tape.trans h.tape, h'.output.trans h.output, Nat.le_trans h.size h'.size, fun k hk => (h'.block k (Nat.lt_of_lt_of_le hk h.size)).trans (h.block k hk)⟩

theorem Made.txnCells {w : World} {b : Nat} {dl ar nu : Int} (h : Txn w b dl ar nu) :
    w.cell? ⟨b + 1, 1, none⟩ = some (.int .i64 nu) ∧ w.cell? ⟨b + 1, 2, none⟩ = some (.int .i64 ar) ∧ w.cell? ⟨b + 1, 3, none⟩ = some (.int .i64 dl) := by
  refine ⟨?_, ?_, ?_⟩ <;> (rw [cell_of_row _ _ _ _ _ _ h.txn]; rfl)

theorem info104 : (Yba.prog.info? 104).map (·.size) = some 3 := by kernel_rfl
set_option maxHeartbeats 1000000 in
theorem prio_is (tb : Nat) (dl ar nu : Int) (w : World) (h1 : w.cell? ⟨tb, 1, none⟩ = some (.int .i64 nu)) (h2 : w.cell? ⟨tb, 2, none⟩ = some (.int .i64 ar)) (h3 : w.cell? ⟨tb, 3, none⟩ = some (.int .i64 dl)) :
    Calls Yba.prog 25 #[.pointer (some ⟨tb, 0, none⟩)] w fun e w' => e = .returned (.agg #[.int .i64 dl, .int .i64 ar, .int .i64 nu]) ∧ Below w.heap.size w w' := by
  have hlt : tb < w.heap.size := block_lt_of_cell h1
  go_enter Yba.func25, Yba.ntmps25
  go_upto_region 1 with fail
  go_region
  go_wp2
  exact bodyPost_ret (v := .agg #[.int .i64 dl, .int .i64 ar, .int .i64 nu]) (results_cell_row Yba.results25 _ _ w.heap.size 104 _ (0, 0) _ rfl (heap_alloc_new _ _) Yba.underlying104 rfl info104) rfl ⟨rfl, ((Below.refl _ _).alloc (Nat.le_refl _) _).drew⟩

/-- the order of priorities. -/
def rank (a b : Int × Int × Int) : Bool := if a.1 != b.1 then decide (a.1 < b.1) else if a.2.1 != b.2.1 then decide (a.2.1 < b.2.1) else decide (a.2.2 < b.2.2)

theorem ret_bool {a b : Bool} (h : a = b) : Ending.returned (.bool a) = .returned (.bool b) := by rw [h]
set_option maxHeartbeats 1000000 in
theorem outr_is (d a n d' a' n' : Int) (w : World) :
    Calls Yba.prog 26 #[.agg #[.int .i64 d, .int .i64 a, .int .i64 n], .agg #[.int .i64 d', .int .i64 a', .int .i64 n']] w fun e w' => e = .returned (.bool (rank (d, a, n) (d', a', n'))) ∧ Below w.heap.size w w' := by
  have hb : ∀ A B, Below w.heap.size w ((w.alloc A).alloc B) := fun A B => ((Below.refl _ _).alloc (Nat.le_refl _) _).alloc (by simp) _
  by_cases hd : d = d'
  · subst hd
    by_cases ha : a = a'
    · subst ha
      go_enter Yba.func26, Yba.ntmps26
      go_wp2
      go_ret
      exact ⟨ret_bool (by simp [rank]), hb _ _⟩
    · have e1 : (a != a') = true := by simpa using ha
      go_enter Yba.func26, Yba.ntmps26
      go_wp2
      go_ret
      exact ⟨ret_bool (by simp [rank, ha]), hb _ _⟩
  · have e1 : (d != d') = true := by simpa using hd
    go_enter Yba.func26, Yba.ntmps26
    go_wp2
    go_ret
    exact ⟨ret_bool (by simp [rank, hd]), hb _ _⟩

theorem keep8 {W W' : World} {p1 p2 p3 p4 p5 p6 p7 p8 : Addr} {v1 v2 v3 v4 v5 v6 v7 v8 : Value} (hb : Below W.heap.size W W')
    (h : W.cell? p1 = some v1 ∧ W.cell? p2 = some v2 ∧ W.cell? p3 = some v3 ∧ W.cell? p4 = some v4 ∧ W.cell? p5 = some v5 ∧ W.cell? p6 = some v6 ∧ W.cell? p7 = some v7 ∧ W.cell? p8 = some v8) :
    W'.cell? p1 = some v1 ∧ W'.cell? p2 = some v2 ∧ W'.cell? p3 = some v3 ∧ W'.cell? p4 = some v4 ∧ W'.cell? p5 = some v5 ∧ W'.cell? p6 = some v6 ∧ W'.cell? p7 = some v7 ∧ W'.cell? p8 = some v8 := by
  obtain ⟨h1, h2, h3, h4, h5, h6, h7, h8⟩ := h
  exact ⟨(hb.cell (block_lt_of_cell h1)).trans h1, (hb.cell (block_lt_of_cell h2)).trans h2, (hb.cell (block_lt_of_cell h3)).trans h3, (hb.cell (block_lt_of_cell h4)).trans h4,
    (hb.cell (block_lt_of_cell h5)).trans h5, (hb.cell (block_lt_of_cell h6)).trans h6, (hb.cell (block_lt_of_cell h7)).trans h7, (hb.cell (block_lt_of_cell h8)).trans h8⟩

theorem prioA {a b ta tb : Nat} {d r n d' r' n' : Int} {w : World} (h : w.cell? ⟨a, 1, none⟩ = some (.pointer (some ⟨ta, 0, none⟩)) ∧ w.cell? ⟨b, 1, none⟩ = some (.pointer (some ⟨tb, 0, none⟩)) ∧
      w.cell? ⟨ta, 1, none⟩ = some (.int .i64 n) ∧ w.cell? ⟨ta, 2, none⟩ = some (.int .i64 r) ∧ w.cell? ⟨ta, 3, none⟩ = some (.int .i64 d) ∧
      w.cell? ⟨tb, 1, none⟩ = some (.int .i64 n') ∧ w.cell? ⟨tb, 2, none⟩ = some (.int .i64 r') ∧ w.cell? ⟨tb, 3, none⟩ = some (.int .i64 d')) :
    Calls Yba.prog 25 #[.pointer (some ⟨ta, 0, none⟩)] w fun e w' => e = .returned (.agg #[.int .i64 d, .int .i64 r, .int .i64 n]) ∧ Below w.heap.size w w' :=
  prio_is ta d r n w h.2.2.1 h.2.2.2.1 h.2.2.2.2.1
theorem prioB {a b ta tb : Nat} {d r n d' r' n' : Int} {w : World} (h : w.cell? ⟨a, 1, none⟩ = some (.pointer (some ⟨ta, 0, none⟩)) ∧ w.cell? ⟨b, 1, none⟩ = some (.pointer (some ⟨tb, 0, none⟩)) ∧
      w.cell? ⟨ta, 1, none⟩ = some (.int .i64 n) ∧ w.cell? ⟨ta, 2, none⟩ = some (.int .i64 r) ∧ w.cell? ⟨ta, 3, none⟩ = some (.int .i64 d) ∧
      w.cell? ⟨tb, 1, none⟩ = some (.int .i64 n') ∧ w.cell? ⟨tb, 2, none⟩ = some (.int .i64 r') ∧ w.cell? ⟨tb, 3, none⟩ = some (.int .i64 d')) :
    Calls Yba.prog 25 #[.pointer (some ⟨tb, 0, none⟩)] w fun e w' => e = .returned (.agg #[.int .i64 d', .int .i64 r', .int .i64 n']) ∧ Below w.heap.size w w' :=
  prio_is tb d' r' n' w h.2.2.2.2.2.1 h.2.2.2.2.2.2.1 h.2.2.2.2.2.2.2

set_option maxRecDepth 100000 in
set_option maxHeartbeats 1000000 in
theorem out_raw (a b ta tb : Nat) (d r n d' r' n' : Int) (w : World) (ha : w.cell? ⟨a, 1, none⟩ = some (.pointer (some ⟨ta, 0, none⟩))) (hb : w.cell? ⟨b, 1, none⟩ = some (.pointer (some ⟨tb, 0, none⟩)))
    (h1 : w.cell? ⟨ta, 1, none⟩ = some (.int .i64 n)) (h2 : w.cell? ⟨ta, 2, none⟩ = some (.int .i64 r)) (h3 : w.cell? ⟨ta, 3, none⟩ = some (.int .i64 d))
    (k1 : w.cell? ⟨tb, 1, none⟩ = some (.int .i64 n')) (k2 : w.cell? ⟨tb, 2, none⟩ = some (.int .i64 r')) (k3 : w.cell? ⟨tb, 3, none⟩ = some (.int .i64 d')) :
    Calls Yba.prog 18 #[.pointer (some ⟨a, 0, none⟩), .pointer (some ⟨b, 0, none⟩)] w fun e w' => e = .returned (.bool (rank (d, r, n) (d', r', n'))) ∧ Below w.heap.size w w' := by
  go_enter Yba.func18, Yba.ntmps18
  go_upto_region 1 with fail
  go_region_held3 (fun w' => w'.cell? ⟨a, 1, none⟩ = some (.pointer (some ⟨ta, 0, none⟩)) ∧ w'.cell? ⟨b, 1, none⟩ = some (.pointer (some ⟨tb, 0, none⟩)) ∧ w'.cell? ⟨ta, 1, none⟩ = some (.int .i64 n) ∧ w'.cell? ⟨ta, 2, none⟩ = some (.int .i64 r) ∧ w'.cell? ⟨ta, 3, none⟩ = some (.int .i64 d) ∧
      w'.cell? ⟨tb, 1, none⟩ = some (.int .i64 n') ∧ w'.cell? ⟨tb, 2, none⟩ = some (.int .i64 r') ∧ w'.cell? ⟨tb, 3, none⟩ = some (.int .i64 d'))
    (first | exact ⟨ha, hb, h1, h2, h3, k1, k2, k3⟩ | exact keep8 (by assumption) (by assumption))
    ((first
      | (go_at_call 25; with_reducible refine (prioA (by assumption)).mono ?_; rintro e w1 ⟨rfl, hb1⟩)
      | (go_at_call 25; with_reducible refine (prioB (by assumption)).mono ?_; rintro e w1 ⟨rfl, hb1⟩)
      | (go_at_call 26; with_reducible refine (outr_is _ _ _ _ _ _ _).mono ?_; rintro e w2 ⟨rfl, hb2⟩)))
  go_wp2
  go_ret
  exact ⟨rfl, (((Below.refl _ _).drew.next (by assumption)).next hb1).next hb2⟩

theorem keep10 {W W' : World} {p1 p2 p3 p4 p5 p6 p7 p8 p9 p10 : Addr} {v1 v2 v3 v4 v5 v6 v7 v8 v9 v10 : Value} (hb : Below W.heap.size W W')
    (h : W.cell? p9 = some v9 ∧ W.cell? p10 = some v10 ∧ W.cell? p1 = some v1 ∧ W.cell? p2 = some v2 ∧ W.cell? p3 = some v3 ∧ W.cell? p4 = some v4 ∧ W.cell? p5 = some v5 ∧ W.cell? p6 = some v6 ∧ W.cell? p7 = some v7 ∧ W.cell? p8 = some v8) :
    W'.cell? p9 = some v9 ∧ W'.cell? p10 = some v10 ∧ W'.cell? p1 = some v1 ∧ W'.cell? p2 = some v2 ∧ W'.cell? p3 = some v3 ∧ W'.cell? p4 = some v4 ∧ W'.cell? p5 = some v5 ∧ W'.cell? p6 = some v6 ∧ W'.cell? p7 = some v7 ∧ W'.cell? p8 = some v8 :=
  ⟨(hb.cell (block_lt_of_cell h.1)).trans h.1, (hb.cell (block_lt_of_cell h.2.1)).trans h.2.1, keep8 hb h.2.2⟩

set_option maxRecDepth 100000 in
set_option maxHeartbeats 1000000 in
/-- r.outranks(q): the modes do not matter. -/
theorem outranks_raw (a b ta tb : Nat) (m m' d r n d' r' n' : Int) (w : World) (ha : w.cell? ⟨a, 1, none⟩ = some (.pointer (some ⟨ta, 0, none⟩))) (hb : w.cell? ⟨b, 1, none⟩ = some (.pointer (some ⟨tb, 0, none⟩)))
    (h1 : w.cell? ⟨ta, 1, none⟩ = some (.int .i64 n)) (h2 : w.cell? ⟨ta, 2, none⟩ = some (.int .i64 r)) (h3 : w.cell? ⟨ta, 3, none⟩ = some (.int .i64 d))
    (k1 : w.cell? ⟨tb, 1, none⟩ = some (.int .i64 n')) (k2 : w.cell? ⟨tb, 2, none⟩ = some (.int .i64 r')) (k3 : w.cell? ⟨tb, 3, none⟩ = some (.int .i64 d')) :
    Calls Yba.prog 30 #[.agg #[.pointer (some ⟨a, 0, none⟩), .int .u8 m], .agg #[.pointer (some ⟨b, 0, none⟩), .int .u8 m']] w fun e w' => e = .returned (.bool (rank (d, r, n) (d', r', n'))) ∧ Below w.heap.size w w' := by
  go_enter Yba.func30, Yba.ntmps30
  go_upto_region 0 with fail
  go_cut [2, 3, 4] (fun u v x wx => u = .pointer (some ⟨w.heap.size, 0, none⟩) ∧ v = .pointer (some ⟨w.heap.size + 1, 0, none⟩) ∧ x = .bool false ∧ Below w.heap.size w wx ∧
      wx.cell? ⟨w.heap.size, 0, none⟩ = some (.pointer (some ⟨a, 0, none⟩)) ∧ wx.cell? ⟨w.heap.size + 1, 0, none⟩ = some (.pointer (some ⟨b, 0, none⟩)) ∧
      wx.cell? ⟨a, 1, none⟩ = some (.pointer (some ⟨ta, 0, none⟩)) ∧ wx.cell? ⟨b, 1, none⟩ = some (.pointer (some ⟨tb, 0, none⟩)) ∧ wx.cell? ⟨ta, 1, none⟩ = some (.int .i64 n) ∧ wx.cell? ⟨ta, 2, none⟩ = some (.int .i64 r) ∧ wx.cell? ⟨ta, 3, none⟩ = some (.int .i64 d) ∧
      wx.cell? ⟨tb, 1, none⟩ = some (.int .i64 n') ∧ wx.cell? ⟨tb, 2, none⟩ = some (.int .i64 r') ∧ wx.cell? ⟨tb, 3, none⟩ = some (.int .i64 d'))
  case first =>
    go_wp2
    go_meet
    case rel =>
      have hb2 : ∀ A B, Below w.heap.size w ((w.alloc A).alloc B) := fun A B => ((Below.refl _ _).alloc (Nat.le_refl _) _).alloc (by simp) _
      exact ⟨rfl, rfl, rfl, hb2 _ _, by simp, by simp, keep8 (hb2 _ _) ⟨ha, hb, h1, h2, h3, k1, k2, k3⟩⟩
  case rest =>
    obtain ⟨rfl, rfl, rfl, hB, x0, x1, y⟩ := hcut
    clear ha hb h1 h2 h3 k1 k2 k3
    go_upto_region 1 with fail
    go_region_held3 (fun w' => w'.cell? ⟨w.heap.size, 0, none⟩ = some (.pointer (some ⟨a, 0, none⟩)) ∧ w'.cell? ⟨w.heap.size + 1, 0, none⟩ = some (.pointer (some ⟨b, 0, none⟩)) ∧
        w'.cell? ⟨a, 1, none⟩ = some (.pointer (some ⟨ta, 0, none⟩)) ∧ w'.cell? ⟨b, 1, none⟩ = some (.pointer (some ⟨tb, 0, none⟩)) ∧ w'.cell? ⟨ta, 1, none⟩ = some (.int .i64 n) ∧ w'.cell? ⟨ta, 2, none⟩ = some (.int .i64 r) ∧ w'.cell? ⟨ta, 3, none⟩ = some (.int .i64 d) ∧
      w'.cell? ⟨tb, 1, none⟩ = some (.int .i64 n') ∧ w'.cell? ⟨tb, 2, none⟩ = some (.int .i64 r') ∧ w'.cell? ⟨tb, 3, none⟩ = some (.int .i64 d'))
      (first | exact ⟨x0, x1, y⟩ | exact keep10 (by assumption) (by assumption))
      ((first
        | (go_at_call 25; with_reducible refine (prioA (And.right (And.right (by assumption)))).mono ?_; rintro e w1 ⟨rfl, hb1⟩)
        | (go_at_call 25; with_reducible refine (prioB (And.right (And.right (by assumption)))).mono ?_; rintro e w1 ⟨rfl, hb1⟩)
        | (go_at_call 26; with_reducible refine (outr_is _ _ _ _ _ _ _).mono ?_; rintro e w2 ⟨rfl, hb2⟩)))
    go_wp2
    go_ret
    exact ⟨rfl, ((hB.drew.next (by assumption)).next hb1).next hb2⟩
end Go.Proofs.Ybulkboha
