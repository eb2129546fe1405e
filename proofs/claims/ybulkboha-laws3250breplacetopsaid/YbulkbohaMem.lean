import Derived.Test.YbulkbohaHeap
namespace Go.Proofs.Ybulkboha
open Go.RowKit
set_option linter.unusedVariables false

/-- a row of entries, three cells each; a row of items, two cells each. -/
def sc : List (Int × Int) → List Value
  | [] => []
  | x :: xs => .int .i64 x.1 :: .int .u64 x.2 :: .pointer none :: sc xs
def ic : List (Int × Int) → List Value
  | [] => []
  | x :: xs => .int .i64 x.1 :: .int .u64 x.2 :: ic xs

theorem sc_length (xs : List (Int × Int)) : (sc xs).length = 3 * xs.length := by
  induction xs with
  | nil => rfl
  | cons x xs ih => simp only [sc, List.length_cons, ih]; omega
theorem ic_length (xs : List (Int × Int)) : (ic xs).length = 2 * xs.length := by
  induction xs with
  | nil => rfl
  | cons x xs ih => simp only [ic, List.length_cons, ih]; omega
theorem sc_append (xs ys : List (Int × Int)) : sc (xs ++ ys) = sc xs ++ sc ys := by
  induction xs with
  | nil => rfl
  | cons x xs ih => simp only [sc, List.cons_append, ih]
theorem ic_append (xs ys : List (Int × Int)) : ic (xs ++ ys) = ic xs ++ ic ys := by
  induction xs with
  | nil => rfl
  | cons x xs ih => simp only [ic, List.cons_append, ih]
theorem sc_get (xs : List (Int × Int)) (j : Nat) (h : j < xs.length) :
    (sc xs)[j * 3]? = some (.int .i64 (gE xs j).1) ∧ (sc xs)[j * 3 + 1]? = some (.int .u64 (gE xs j).2) ∧ (sc xs)[j * 3 + 2]? = some (.pointer none) := by
  induction xs generalizing j with
  | nil => simp at h
  | cons x xs ih =>
    cases j with
    | zero => simp [sc, gE]
    | succ j =>
      have := ih j (by simpa using h)
      have e : gE (x :: xs) (j + 1) = gE xs j := by simp [gE]
      rw [e, show (j + 1) * 3 = j * 3 + 3 by omega]
      simpa [sc] using this
theorem ic_get (xs : List (Int × Int)) (j : Nat) (h : j < xs.length) :
    (ic xs)[j * 2]? = some (.int .i64 (gE xs j).1) ∧ (ic xs)[j * 2 + 1]? = some (.int .u64 (gE xs j).2) := by
  induction xs generalizing j with
  | nil => simp at h
  | cons x xs ih =>
    cases j with
    | zero => simp [ic, gE]
    | succ j =>
      have := ih j (by simpa using h)
      have e : gE (x :: xs) (j + 1) = gE xs j := by simp [gE]
      rw [e, show (j + 1) * 2 = j * 2 + 2 by omega]
      simpa [ic] using this
theorem sc_set (xs : List (Int × Int)) (j : Nat) (y : Int × Int) (h : j < xs.length) :
    (((sc xs).set (j * 3) (.int .i64 y.1)).set (j * 3 + 1) (.int .u64 y.2)).set (j * 3 + 2) (.pointer none) = sc (xs.set j y) := by
  induction xs generalizing j with
  | nil => simp at h
  | cons x xs ih =>
    cases j with
    | zero => simp [sc]
    | succ j =>
      have := ih j (by simpa using h)
      rw [show (j + 1) * 3 = j * 3 + 3 by omega]
      simp only [sc, List.set_cons_succ, List.set_cons_succ]
      rw [this]
theorem ic_set (xs : List (Int × Int)) (j : Nat) (y : Int × Int) (h : j < xs.length) :
    ((ic xs).set (j * 2) (.int .i64 y.1)).set (j * 2 + 1) (.int .u64 y.2) = ic (xs.set j y) := by
  induction xs generalizing j with
  | nil => simp at h
  | cons x xs ih =>
    cases j with
    | zero => simp [ic]
    | succ j =>
      have := ih j (by simpa using h)
      rw [show (j + 1) * 2 = j * 2 + 2 by omega]
      simp only [ic, List.set_cons_succ]
      rw [this]

/-- block b is a row of the entries ys (all of its capacity), of the items ys. -/
def RowS (w : World) (b : Nat) (ys : List (Int × Int)) : Prop := w.heap[b]? = some (.cells (sc ys).toArray 29 (0, 0))
def RowI (w : World) (b : Nat) (ys : List (Int × Int)) : Prop := w.heap[b]? = some (.cells (ic ys).toArray 32 (0, 0))

theorem RowS.cells {w : World} {b : Nat} {ys : List (Int × Int)} (h : RowS w b ys) (j : Nat) (hj : j < ys.length) :
    w.cell? ⟨b, j * 3, none⟩ = some (.int .i64 (gE ys j).1) ∧ w.cell? ⟨b, j * 3 + 1, none⟩ = some (.int .u64 (gE ys j).2) ∧ w.cell? ⟨b, j * 3 + 2, none⟩ = some (.pointer none) := by
  have := sc_get ys j hj
  refine ⟨?_, ?_, ?_⟩ <;> rw [cell_of_row w b _ _ 29 _ h]
  · simpa using this.1
  · simpa using this.2.1
  · simpa using this.2.2
theorem RowS.free {w : World} {b : Nat} {ys : List (Int × Int)} (h : RowS w b ys) (o : Nat) : w.frozen? ⟨b, o, none⟩ = false := frozen_of_row w b o _ 29 h
theorem RowI.cells {w : World} {b : Nat} {ys : List (Int × Int)} (h : RowI w b ys) (j : Nat) (hj : j < ys.length) :
    w.cell? ⟨b, j * 2, none⟩ = some (.int .i64 (gE ys j).1) ∧ w.cell? ⟨b, j * 2 + 1, none⟩ = some (.int .u64 (gE ys j).2) := by
  have := ic_get ys j hj
  refine ⟨?_, ?_⟩ <;> rw [cell_of_row w b _ _ 32 _ h]
  · simpa using this.1
  · simpa using this.2
theorem RowI.free {w : World} {b : Nat} {ys : List (Int × Int)} (h : RowI w b ys) (o : Nat) : w.frozen? ⟨b, o, none⟩ = false := frozen_of_row w b o _ 32 h
theorem RowS.set {w : World} {b : Nat} {ys : List (Int × Int)} (h : RowS w b ys) (j : Nat) (y : Int × Int) (hj : j < ys.length) :
    RowS (((w.setCell ⟨b, j * 3, none⟩ (.int .i64 y.1)).setCell ⟨b, j * 3 + 1, none⟩ (.int .u64 y.2)).setCell ⟨b, j * 3 + 2, none⟩ (.pointer none)) b (ys.set j y) := by
  unfold RowS
  rw [heap_setCell_same _ b _ _ 29 _ (heap_setCell_same _ b _ _ 29 _ (heap_setCell_same _ b _ _ 29 _ h)), ← sc_set ys j y hj]
  simp
theorem RowI.set {w : World} {b : Nat} {ys : List (Int × Int)} (h : RowI w b ys) (j : Nat) (y : Int × Int) (hj : j < ys.length) :
    RowI ((w.setCell ⟨b, j * 2, none⟩ (.int .i64 y.1)).setCell ⟨b, j * 2 + 1, none⟩ (.int .u64 y.2)) b (ys.set j y) := by
  unfold RowI
  rw [heap_setCell_same _ b _ _ 32 _ (heap_setCell_same _ b _ _ 32 _ h), ← ic_set ys j y hj]
  simp

/-- Below block N all but block b is as it was. -/
structure Oth (b N : Nat) (w w' : World) : Prop where
  os : w'.os = w.os
  tape : w'.tape = w.tape
  output : w'.output = w.output
  size : w.heap.size ≤ w'.heap.size
  block : ∀ k, k < N → k ≠ b → w'.heap[k]? = w.heap[k]?

theorem Oth.refl (b N : Nat) (w : World) : Oth b N w w := ⟨rfl, rfl, rfl, Nat.le_refl _, fun _ _ _ => rfl⟩
theorem Oth.trans {b N : Nat} {a c d : World} (h : Oth b N a c) (k : Oth b N c d) : Oth b N a d :=
  ⟨k.os.trans h.os, k.tape.trans h.tape, k.output.trans h.output, Nat.le_trans h.size k.size, fun i hi hn => (k.block i hi hn).trans (h.block i hi hn)⟩
theorem Oth.below {b N : Nat} {a c d : World} (h : Oth b N a c) (k : Below N c d) : Oth b N a d :=
  h.trans ⟨k.os, k.tape, k.output, k.size, fun i hi _ => k.block i hi⟩
theorem Oth.set {b N : Nat} {a c : World} (h : Oth b N a c) (o : Nat) (v : Value) : Oth b N a (c.setCell ⟨b, o, none⟩ v) :=
  h.trans ⟨rfl, rfl, rfl, by simp [World.setCell], fun i _ hn => Below.heap_setCell _ _ _ _ hn⟩
theorem Oth.cell {b N : Nat} {w w' : World} (h : Oth b N w w') {p : Addr} (hp : p.block < N) (hn : p.block ≠ b) : w'.cell? p = w.cell? p := World.cell?_of_block (w := w) (h.block p.block hp hn)
theorem below_row {N b : Nat} {w w' : World} {ys : List (Int × Int)} (h : RowS w b ys) (k : Below N w w') (hb : b < N) : RowS w' b ys := (k.block b hb).trans h
theorem below_rowI {N b : Nat} {w w' : World} {ys : List (Int × Int)} (h : RowI w b ys) (k : Below N w w') (hb : b < N) : RowI w' b ys := (k.block b hb).trans h
end Go.Proofs.Ybulkboha
namespace Go.Proofs.Ybulkboha
open Go.RowKit
/-- block B is the box of one entry, of one item. -/
def BoxS (w : World) (B : Nat) (s : Int × Int) : Prop := w.heap[B]? = some (.cells #[.int .i64 s.1, .int .u64 s.2, .pointer none] 29 (0, 0))
def BoxI (w : World) (B : Nat) (s : Int × Int) : Prop := w.heap[B]? = some (.cells #[.int .i64 s.1, .int .u64 s.2] 32 (0, 0))
theorem BoxS.cells {w : World} {B : Nat} {s : Int × Int} (h : BoxS w B s) :
    w.cell? ⟨B, 0, none⟩ = some (.int .i64 s.1) ∧ w.cell? ⟨B, 1, none⟩ = some (.int .u64 s.2) ∧ w.cell? ⟨B, 2, none⟩ = some (.pointer none) :=
  ⟨by rw [cell_of_row w B _ _ 29 _ h]; rfl, by rw [cell_of_row w B _ _ 29 _ h]; rfl, by rw [cell_of_row w B _ _ 29 _ h]; rfl⟩
theorem BoxI.cells {w : World} {B : Nat} {s : Int × Int} (h : BoxI w B s) :
    w.cell? ⟨B, 0, none⟩ = some (.int .i64 s.1) ∧ w.cell? ⟨B, 1, none⟩ = some (.int .u64 s.2) :=
  ⟨by rw [cell_of_row w B _ _ 32 _ h]; rfl, by rw [cell_of_row w B _ _ 32 _ h]; rfl⟩
theorem BoxS.below {w w' : World} {B N : Nat} {s : Int × Int} (h : BoxS w B s) (k : Below N w w') (hb : B < N) : BoxS w' B s := (k.block B hb).trans h
theorem BoxI.below {w w' : World} {B N : Nat} {s : Int × Int} (h : BoxI w B s) (k : Below N w w') (hb : B < N) : BoxI w' B s := (k.block B hb).trans h
theorem BoxS.setCell {w : World} {B b o : Nat} {v : Value} {s : Int × Int} (h : BoxS w B s) (hb : B ≠ b) : BoxS (w.setCell ⟨b, o, none⟩ v) B s := (Below.heap_setCell _ _ _ _ hb).trans h
theorem BoxI.setCell {w : World} {B b o : Nat} {v : Value} {s : Int × Int} (h : BoxI w B s) (hb : B ≠ b) : BoxI (w.setCell ⟨b, o, none⟩ v) B s := (Below.heap_setCell _ _ _ _ hb).trans h
end Go.Proofs.Ybulkboha
namespace Go.Proofs.Ybulkboha
open Go.RowKit
theorem gE_append {xs ys : List (Int × Int)} {j : Nat} (h : j < xs.length) : gE (xs ++ ys) j = gE xs j := by
  rw [gE_eq (by simp; omega), gE_eq h, List.getElem_append_left h]
theorem RowS.cellsL {w : World} {b : Nat} {ys rest : List (Int × Int)} (h : RowS w b (ys ++ rest)) (j : Nat) (hj : j < ys.length) :
    w.cell? ⟨b, j * 3, none⟩ = some (.int .i64 (gE ys j).1) ∧ w.cell? ⟨b, j * 3 + 1, none⟩ = some (.int .u64 (gE ys j).2) ∧ w.cell? ⟨b, j * 3 + 2, none⟩ = some (.pointer none) := by
  have := h.cells j (by simp; omega)
  rwa [gE_append hj] at this
theorem RowS.setL {w : World} {b : Nat} {ys rest : List (Int × Int)} (h : RowS w b (ys ++ rest)) (j : Nat) (y : Int × Int) (hj : j < ys.length) :
    RowS (((w.setCell ⟨b, j * 3, none⟩ (.int .i64 y.1)).setCell ⟨b, j * 3 + 1, none⟩ (.int .u64 y.2)).setCell ⟨b, j * 3 + 2, none⟩ (.pointer none)) b (ys.set j y ++ rest) := by
  have := h.set j y (by simp; omega)
  rwa [List.set_append_left _ _ hj] at this
end Go.Proofs.Ybulkboha
namespace Go.Proofs.Ybulkboha
open Go.RowKit
/-- six cells, still there behind a call that only makes memory. -/
theorem keep6 {w w1 : World} (hb : Below w.heap.size w w1) {p1 p2 p3 p4 p5 p6 : Addr} {v1 v2 v3 v4 v5 v6 : Value}
    (h : w.cell? p1 = some v1 ∧ w.cell? p2 = some v2 ∧ w.cell? p3 = some v3 ∧ w.cell? p4 = some v4 ∧ w.cell? p5 = some v5 ∧ w.cell? p6 = some v6) :
    w1.cell? p1 = some v1 ∧ w1.cell? p2 = some v2 ∧ w1.cell? p3 = some v3 ∧ w1.cell? p4 = some v4 ∧ w1.cell? p5 = some v5 ∧ w1.cell? p6 = some v6 := by
  have k : ∀ p v, w.cell? p = some v → w1.cell? p = some v := fun p v h => (hb.cell (block_lt_of_cell h)).trans h
  exact ⟨k _ _ h.1, k _ _ h.2.1, k _ _ h.2.2.1, k _ _ h.2.2.2.1, k _ _ h.2.2.2.2.1, k _ _ h.2.2.2.2.2⟩
theorem before_raw (a1 a2 b1 b2 : Int) (w : World) :
    Calls Yba.prog 24 #[.agg #[.int .i64 a1, .int .u64 a2, .pointer none], .agg #[.int .i64 b1, .int .u64 b2, .pointer none]] w fun e w' => e = .returned (.bool (ltE (a1, a2) (b1, b2))) ∧ Below w.heap.size w w' := before_any (a1, a2) (b1, b2) w
theorem less_raw (a1 a2 b1 b2 : Int) (w : World) :
    Calls Yba.prog 13 #[.agg #[.int .i64 a1, .int .u64 a2], .agg #[.int .i64 b1, .int .u64 b2]] w fun e w' => e = .returned (.bool (ltE (a1, a2) (b1, b2))) ∧ Below w.heap.size w w' := less_any (a1, a2) (b1, b2) w
theorem sched_raw (a1 a2 : Int) (w : World) :
    Calls Yba.prog 6 #[.agg #[.int .i64 a1, .int .u64 a2]] w fun e w' => e = .returned (.agg #[.int .i64 a1, .int .u64 a2, .pointer none]) ∧ Below w.heap.size w w' := sched_any (a1, a2) w
theorem item_raw (a1 a2 : Int) (w : World) :
    Calls Yba.prog 10 #[.agg #[.int .i64 a1, .int .u64 a2, .pointer none]] w fun e w' => e = .returned (.agg #[.int .i64 a1, .int .u64 a2]) ∧ Below w.heap.size w w' := item_any (a1, a2) w
end Go.Proofs.Ybulkboha
namespace Go.Proofs.Ybulkboha
open Go.RowKit
/-- the world in the midst of 'down' and 'push': the row, the box of s, all else below w's blocks as it was. -/
structure DW (b : Nat) (w : World) (B : Nat) (s : Int × Int) (row : List (Int × Int)) (wx : World) : Prop where
  row : RowS wx b row
  box : BoxS wx B s
  oth : Oth b w.heap.size w wx
  lt : B < wx.heap.size ∧ b < wx.heap.size
  ne : B ≠ b
  base : w.heap.size ≤ B
theorem DW.below {b : Nat} {w : World} {B : Nat} {s : Int × Int} {row : List (Int × Int)} {wx wy : World} (h : DW b w B s row wx) (k : Below wx.heap.size wx wy) : DW b w B s row wy :=
  ⟨below_row h.row k h.lt.2, h.box.below k h.lt.1, h.oth.below (k.mono (by have := h.oth.size; omega)), ⟨by have := k.size; have := h.lt; omega, by have := k.size; have := h.lt; omega⟩, h.ne, h.base⟩
theorem DW.drew {b : Nat} {w : World} {B : Nat} {s : Int × Int} {row : List (Int × Int)} {wx : World} (h : DW b w B s row wx) : DW b w B s row wx.drew :=
  h.below ((Below.refl _ _).drew)
theorem DW.store {b : Nat} {w : World} {B : Nat} {s : Int × Int} {ys rest : List (Int × Int)} {wx : World} (h : DW b w B s (ys ++ rest) wx) (j : Nat) (y : Int × Int) (hj : j < ys.length) :
    DW b w B s (ys.set j y ++ rest) (((wx.setCell ⟨b, j * 3, none⟩ (.int .i64 y.1)).setCell ⟨b, j * 3 + 1, none⟩ (.int .u64 y.2)).setCell ⟨b, j * 3 + 2, none⟩ (.pointer none)) :=
  ⟨h.row.setL j y hj, ((h.box.setCell h.ne).setCell h.ne).setCell h.ne, ((h.oth.set _ _).set _ _).set _ _, by simpa [World.setCell] using h.lt, h.ne, h.base⟩
end Go.Proofs.Ybulkboha
