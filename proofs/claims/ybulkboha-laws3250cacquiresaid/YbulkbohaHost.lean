import Derived.Test.YbulkbohaAband
namespace Go.Proofs.Ybulkboha
open Go.RowKit
set_option linter.unusedVariables false

/-- the law's host. -/
def hostArr (cf : Int) (ct : Value) (ac la bo se en ot : Int) : Array Value := #[.int .i64 cf, ct, .int .i64 ac, .int .i64 la, .int .i64 bo, .int .i64 se, .int .i64 en, .int .i64 ot]

theorem na_access (a : Addr) (w : World) : (nilAhead 280 46 (.pointer (some a)) "Access").run Yba.prog w = .ok (some false) w := by kernel_rfl
theorem m_access (a : Addr) (w : World) : (method 280 46 (.pointer (some a)) "Access").run Yba.prog w = .ok (85, .pointer (some a)) w := by kernel_rfl
theorem na_ended (a : Addr) (w : World) : (nilAhead 280 46 (.pointer (some a)) "CohortEnded").run Yba.prog w = .ok (some false) w := by kernel_rfl
theorem m_ended (a : Addr) (w : World) : (method 280 46 (.pointer (some a)) "CohortEnded").run Yba.prog w = .ok (88, .pointer (some a)) w := by kernel_rfl
theorem na_send (a : Addr) (w : World) : (nilAhead 280 46 (.pointer (some a)) "Send").run Yba.prog w = .ok (some false) w := by kernel_rfl
theorem m_send (a : Addr) (w : World) : (method 280 46 (.pointer (some a)) "Send").run Yba.prog w = .ok (90, .pointer (some a)) w := by kernel_rfl
theorem na_borrowed (a : Addr) (w : World) : (nilAhead 280 46 (.pointer (some a)) "Borrowed").run Yba.prog w = .ok (some false) w := by kernel_rfl
theorem m_borrowed (a : Addr) (w : World) : (method 280 46 (.pointer (some a)) "Borrowed").run Yba.prog w = .ok (87, .pointer (some a)) w := by kernel_rfl
theorem na_conflict (a : Addr) (w : World) : (nilAhead 280 46 (.pointer (some a)) "LockConflict").run Yba.prog w = .ok (some false) w := by kernel_rfl
theorem m_conflict (a : Addr) (w : World) : (method 280 46 (.pointer (some a)) "LockConflict").run Yba.prog w = .ok (89, .pointer (some a)) w := by kernel_rfl

theorem val_i {k : IntKind} {a b : Int} (h : a = b) : Value.int k a = .int k b := by rw [h]
set_option maxHeartbeats 1000000 in
theorem ended_is (hb : Nat) (t : Value) (i o en : Int) (w : World) (h : w.cell? ⟨hb, 6, none⟩ = some (.int .i64 en)) (hf : w.frozen? ⟨hb, 6, none⟩ = false) (h1 : 0 ≤ en) (h2 : en < 100000) :
    Calls Yba.prog 88 #[.pointer (some ⟨hb, 0, none⟩), t, .int .i64 i, .int .u8 o] w fun e w' => e = .returned (.tuple #[]) ∧ w' = w.setCell ⟨hb, 6, none⟩ (.int .i64 (en + 1)) := by
  have hw : wrap64 (en + 1) = en + 1 := by unfold wrap64; omega
  go_enter Yba.func88, Yba.ntmps88
  go_wp2
  go_end0
  exact ⟨rfl, rfl⟩
set_option maxHeartbeats 1000000 in
theorem send90 (hb : Nat) (k x : Int) (t : Nat) (i se : Int) (w : World) (h : w.cell? ⟨hb, 5, none⟩ = some (.int .i64 se)) (hf : w.frozen? ⟨hb, 5, none⟩ = false) (h1 : 0 ≤ se) (h2 : se < 100000) :
    Calls Yba.prog 90 #[.pointer (some ⟨hb, 0, none⟩), .int .i64 x, .agg #[.int .u8 k, .pointer (some ⟨t, 0, none⟩), .int .i64 i, .bool false]] w fun e w' => e = .returned (.tuple #[]) ∧ ∃ A, w' = (w.setCell ⟨hb, 5, none⟩ (.int .i64 (se + 1))).alloc A := by
  have hw : wrap64 (se + 1) = se + 1 := by unfold wrap64; omega
  have hl : hb < w.heap.size := block_lt_of_cell h
  go_enter Yba.func90, Yba.ntmps90
  go_wp2
  go_end0
  exact ⟨rfl, _, rfl⟩
set_option maxHeartbeats 1000000 in
theorem borrowed87 (hb : Nat) (t : Value) (bo : Int) (w : World) (h : w.cell? ⟨hb, 4, none⟩ = some (.int .i64 bo)) (hf : w.frozen? ⟨hb, 4, none⟩ = false) (h1 : 0 ≤ bo) (h2 : bo < 100000) :
    Calls Yba.prog 87 #[.pointer (some ⟨hb, 0, none⟩), t] w fun e w' => e = .returned (.tuple #[]) ∧ w' = w.setCell ⟨hb, 4, none⟩ (.int .i64 (bo + 1)) := by
  have hw : wrap64 (bo + 1) = bo + 1 := by unfold wrap64; omega
  go_enter Yba.func87, Yba.ntmps87
  go_wp2
  go_end0
  exact ⟨rfl, rfl⟩
set_option maxHeartbeats 1000000 in
theorem conflict89 (hb : Nat) (t : Nat) (ct : Value) (cf : Int) (w : World) (h : w.cell? ⟨hb, 0, none⟩ = some (.int .i64 cf)) (hc : w.cell? ⟨hb, 1, none⟩ = some ct) (hf : w.frozen? ⟨hb, 0, none⟩ = false) (hg : w.frozen? ⟨hb, 1, none⟩ = false) (h1 : 0 ≤ cf) (h2 : cf < 100000) :
    Calls Yba.prog 89 #[.pointer (some ⟨hb, 0, none⟩), .pointer (some ⟨t, 0, none⟩)] w fun e w' => e = .returned (.tuple #[]) ∧ w' = (w.setCell ⟨hb, 0, none⟩ (.int .i64 (cf + 1))).setCell ⟨hb, 1, none⟩ (.pointer (some ⟨t, 0, none⟩)) := by
  have hw : wrap64 (cf + 1) = cf + 1 := by unfold wrap64; omega
  go_enter Yba.func89, Yba.ntmps89
  go_wp2
  go_end0
  exact ⟨rfl, rfl⟩
set_option maxHeartbeats 1000000 in
theorem access85 (hb : Nat) (t : Value) (i j ac la : Int) (w : World) (h : w.cell? ⟨hb, 2, none⟩ = some (.int .i64 ac)) (hc : w.cell? ⟨hb, 3, none⟩ = some (.int .i64 la)) (hf : w.frozen? ⟨hb, 2, none⟩ = false) (hg : w.frozen? ⟨hb, 3, none⟩ = false) (h1 : 0 ≤ ac) (h2 : ac < 100000) :
    Calls Yba.prog 85 #[.pointer (some ⟨hb, 0, none⟩), t, .int .i64 i, .int .i64 j, .nilFunc] w fun e w' => e = .returned .nilFunc ∧ w' = (w.setCell ⟨hb, 2, none⟩ (.int .i64 (ac + 1))).setCell ⟨hb, 3, none⟩ (.int .i64 j) := by
  have hw : wrap64 (ac + 1) = ac + 1 := by unfold wrap64; omega
  go_enter Yba.func85, Yba.ntmps85
  go_wp2
  go_ret
  exact ⟨rfl, rfl⟩
end Go.Proofs.Ybulkboha
