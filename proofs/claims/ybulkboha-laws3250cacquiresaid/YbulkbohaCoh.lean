import Derived.Test.YbulkbohaRows
import Derived.WalkKit
import Derived.WalkSpells
import Derived.WalkLawsBesides
import Derived.Below
import Derived.Deep.DeepCutAuto
import Derived.Deep.RegionHeld3
namespace Go.Proofs.Ybulkboha
open Go.RowKit
set_option linter.unusedVariables false

/-- a drawn request: deadline, arrival, number, update, phase, lendOK. -/
structure Req where
  dl : Int
  ar : Int
  nu : Int
  upd : Bool
  ph : Int
  lend : Bool

def reqArr (q : Req) : Array Value := #[.int .i16 q.dl, .int .i16 q.ar, .int .i8 q.nu, .bool q.upd, .int .u8 q.ph, .bool q.lend]
def cohsArr : Array Value := #[.int .i64 0, .slice none 0 0, .slice none 0 0, .bool false]
def txnArr (dl ar nu : Int) (cb : Nat) : Array Value := #[.string ⟨#[]⟩, .int .i64 nu, .int .i64 ar, .int .i64 dl, .int .i64 0, .slice (some ⟨cb, 0, none⟩) 1 1, .bool false]
/-- the cells of a cohort: its site and Txn, phase, how many pages it has locked, whether it waits, its lenders, lendOK, its loans; ca: what cancels its access. -/
def cohArr (sb tb : Nat) (ph locked : Int) (lw : Bool) (ca lenders : Value) (lend : Bool) (loans : Value) : Array Value :=
  #[.pointer (some ⟨sb, 0, none⟩), .pointer (some ⟨tb, 0, none⟩), .int .i64 0, .int .u8 ph, .int .i64 locked, .bool lw, .nilFunc, ca, .nilFunc, .nilFunc, lenders, .bool lend, loans, .bool false]

/-- the Txn of the cohort at block b, and the row of its cohorts. -/
structure Txn (w : World) (b : Nat) (dl ar nu : Int) : Prop where
  txn : w.heap[b + 1]? = some (.cells (txnArr dl ar nu b) 102 (0, 0))
  cohs : w.heap[b]? = some (.cells cohsArr 99 (0, 0))

/-- what mk lays for q: the cohort's block is b + 2, with b the row of cohorts. -/
structure Made (w : World) (sb b : Nat) (q : Req) : Prop where
  txn : Txn w b (wrap64 q.dl) (wrap64 q.ar) (wrap64 q.nu)
  coh : w.heap[b + 2]? = some (.cells (cohArr sb (b + 1) (q.ph.tmod 12) 0 false .nilFunc (.slice none 0 0) q.lend (.slice none 0 0)) 83 (0, 0))

def mkW (w : World) (sb : Nat) (q : Req) : World :=
  (((w.alloc (.cells (reqArr q) 45)).alloc (.cells cohsArr 99)).alloc (.cells (txnArr (wrap64 q.dl) (wrap64 q.ar) (wrap64 q.nu) (w.heap.size + 1)) 102)).alloc
    (.cells (cohArr sb (w.heap.size + 2) (q.ph.tmod 12) 0 false .nilFunc (.slice none 0 0) q.lend (.slice none 0 0)) 83)
theorem mkW_size (w : World) (sb : Nat) (q : Req) : (mkW w sb q).heap.size = w.heap.size + 4 := by simp [mkW]
theorem mkW_below (w : World) (sb : Nat) (q : Req) : Below w.heap.size w (mkW w sb q) :=
  ((((Below.refl _ _).alloc (Nat.le_refl _) _).alloc (by simp) _).alloc (by simp; omega) _).alloc (by simp; omega) _
theorem mkW_made (w : World) (sb : Nat) (q : Req) : Made (mkW w sb q) sb (w.heap.size + 1) q := by
  have e1 : (w.alloc (.cells (reqArr q) 45)).heap.size = w.heap.size + 1 := by simp
  have e2 : ((w.alloc (.cells (reqArr q) 45)).alloc (.cells cohsArr 99)).heap.size = w.heap.size + 2 := by simp
  have e3 : (((w.alloc (.cells (reqArr q) 45)).alloc (.cells cohsArr 99)).alloc (.cells (txnArr (wrap64 q.dl) (wrap64 q.ar) (wrap64 q.nu) (w.heap.size + 1)) 102)).heap.size = w.heap.size + 3 := by simp
  refine ⟨⟨?_, ?_⟩, ?_⟩
  · show (mkW w sb q).heap[w.heap.size + 2]? = _
    unfold mkW
    rw [Below.heap_alloc _ _ _ (by omega), ← e2]
    rw [heap_alloc_new]
  · show (mkW w sb q).heap[w.heap.size + 1]? = _
    unfold mkW
    rw [Below.heap_alloc _ _ _ (by omega), Below.heap_alloc _ _ _ (by omega), ← e1]
    rw [heap_alloc_new]
  · show (mkW w sb q).heap[w.heap.size + 3]? = _
    unfold mkW
    rw [← e3, heap_alloc_new]

theorem ret_ptr {a b : Nat} (h : a = b) : Ending.returned (.pointer (some ⟨a, 0, none⟩)) = .returned (.pointer (some ⟨b, 0, none⟩)) := by rw [h]
set_option maxHeartbeats 1000000 in
theorem mk_is (sb : Nat) (q : Req) (w : World) :
    Calls Yba.prog 15 #[.pointer (some ⟨sb, 0, none⟩), .agg (reqArr q)] w fun e w' => e = .returned (.pointer (some ⟨w.heap.size + 3, 0, none⟩)) ∧ w' = mkW w sb q := by
  obtain ⟨dl, ar, nu, upd, ph, lend⟩ := q
  show Calls Yba.prog 15 #[.pointer (some ⟨sb, 0, none⟩), .agg #[.int .i16 dl, .int .i16 ar, .int .i8 nu, .bool upd, .int .u8 ph, .bool lend]] w _
  go_enter Yba.func15, Yba.ntmps15
  go_wp2
  go_ret
  exact ⟨rfl, rfl⟩

theorem mode_is (u : Bool) (w : World) : Calls Yba.prog 16 #[.bool u] w fun e w' => e = .returned (.int .u8 (if u then 2 else 1)) ∧ w' = w := by
  cases u
  · go_enter Yba.func16, Yba.ntmps16
    go_wp2
    go_ret
    exact ⟨rfl, rfl⟩
  · go_enter Yba.func16, Yba.ntmps16
    go_wp2
    go_ret
    exact ⟨rfl, rfl⟩
theorem b2i_is (u : Bool) (w : World) : Calls Yba.prog 21 #[.bool u] w fun e w' => e = .returned (.int .i64 (if u then 1 else 0)) ∧ w' = w := by
  cases u
  · go_enter Yba.func21, Yba.ntmps21
    go_wp2
    go_ret
    exact ⟨rfl, rfl⟩
  · go_enter Yba.func21, Yba.ntmps21
    go_wp2
    go_ret
    exact ⟨rfl, rfl⟩

/-- whether a cohort of that phase lends; may be aborted. -/
def lendsP (ph : Int) (ok : Bool) : Bool := (ph == 5 || ph == 8 || ph == 7) && ok
def abortP (ph : Int) : Bool := ph == 0 || ph == 1 || ph == 2

theorem lends17 (ph : Int) (ok : Bool) (w : World) : Calls Yba.prog 17 #[.int .u8 ph, .bool ok] w fun e w' => e = .returned (.bool (lendsP ph ok)) ∧ w' = w := by
  unfold lendsP
  by_cases h5 : ph = 5
  · subst h5
    go_enter Yba.func17, Yba.ntmps17
    go_wp2
    go_ret
    exact ⟨by simp, rfl⟩
  have e5 : (ph == 5) = false := by simpa using h5
  by_cases h8 : ph = 8
  · subst h8
    go_enter Yba.func17, Yba.ntmps17
    go_wp2
    go_ret
    exact ⟨by simp, rfl⟩
  have e8 : (ph == 8) = false := by simpa using h8
  by_cases h7 : ph = 7
  · subst h7
    go_enter Yba.func17, Yba.ntmps17
    go_wp2
    go_ret
    exact ⟨by simp, rfl⟩
  have e7 : (ph == 7) = false := by simpa using h7
  go_enter Yba.func17, Yba.ntmps17
  go_wp2
  go_ret
  exact ⟨by simp [e5, e7, e8], rfl⟩
theorem abort19 (ph : Int) (w : World) : Calls Yba.prog 19 #[.int .u8 ph] w fun e w' => e = .returned (.bool (abortP ph)) ∧ w' = w := by
  unfold abortP
  by_cases h5 : ph = 0
  · subst h5
    go_enter Yba.func19, Yba.ntmps19
    go_wp2
    go_ret
    exact ⟨by simp, rfl⟩
  have e5 : (ph == 0) = false := by simpa using h5
  by_cases h8 : ph = 1
  · subst h8
    go_enter Yba.func19, Yba.ntmps19
    go_wp2
    go_ret
    exact ⟨by simp, rfl⟩
  have e8 : (ph == 1) = false := by simpa using h8
  go_enter Yba.func19, Yba.ntmps19
  go_wp2
  go_ret
  exact ⟨by simp [e5, e8], rfl⟩
end Go.Proofs.Ybulkboha
