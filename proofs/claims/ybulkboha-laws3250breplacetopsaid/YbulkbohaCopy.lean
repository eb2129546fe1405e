import Derived.Test.YbulkbohaPop
namespace Go.Proofs.Ybulkboha
open Go.RowKit
set_option linter.unusedVariables false

theorem Yba.info32 : (Yba.prog.info? 32).map (fun i => (i.zero, i.size, i.bytes)) = some (some (.agg #[.int .i64 0, .int .u64 0]), 2, 16) := by kernel_rfl
theorem Yba.info29 : (Yba.prog.info? 29).map (fun i => (i.zero, i.size, i.bytes)) = some (some (.agg #[.int .i64 0, .int .u64 0, .pointer none]), 3, 24) := by kernel_rfl

/-- a slice of items that reads as xs. -/
def SrcI (w : World) (a0 : Option Addr) (xs : List (Int × Int)) : Prop :=
  xs = [] ∨ ∃ b off, a0 = some ⟨b, off, none⟩ ∧ ∀ j, j < xs.length → w.cell? ⟨b, off + j * 2, none⟩ = some (.int .i64 (gE xs j).1) ∧ w.cell? ⟨b, off + j * 2 + 1, none⟩ = some (.int .u64 (gE xs j).2)

theorem SrcI.below {w w' : World} {a0 : Option Addr} {xs : List (Int × Int)} (h : SrcI w a0 xs) (k : Below w.heap.size w w') : SrcI w' a0 xs := by
  rcases h with h | ⟨b, off, h1, h2⟩
  · exact .inl h
  · refine .inr ⟨b, off, h1, fun j hj => ?_⟩
    obtain ⟨c0, c1⟩ := h2 j hj
    exact ⟨(k.cell (block_lt_of_cell c0)).trans c0, (k.cell (block_lt_of_cell c1)).trans c1⟩
theorem RowI.src {w : World} {b : Nat} {ys rest : List (Int × Int)} (h : RowI w b (ys ++ rest)) : SrcI w (some ⟨b, 0, none⟩) ys := by
  refine .inr ⟨b, 0, rfl, fun j hj => ?_⟩
  have := h.cells j (by simp; omega)
  rw [gE_append hj] at this
  simpa using this

theorem ic_src {w : World} {b off : Nat} {xs : List (Int × Int)} (h : ∀ j, j < xs.length → w.cell? ⟨b, off + j * 2, none⟩ = some (.int .i64 (gE xs j).1) ∧ w.cell? ⟨b, off + j * 2 + 1, none⟩ = some (.int .u64 (gE xs j).2)) :
    ∀ i v, (ic xs)[i]? = some v → w.cell? ((⟨b, off, none⟩ : Addr).add i) = some v := by
  intro i v hv
  have hi : i < 2 * xs.length := by have := (List.getElem?_eq_some_iff.1 hv).1; rw [ic_length] at this; exact this
  rw [Addr.add_lit]
  obtain ⟨c0, c1⟩ := h (i / 2) (by omega)
  obtain ⟨g0, g1⟩ := ic_get xs (i / 2) (by omega)
  rcases Nat.mod_two_eq_zero_or_one i with e | e
  · have : i / 2 * 2 = i := by omega
    rw [this] at c0 g0
    rw [c0, ← hv, g0]
  · have : i / 2 * 2 + 1 = i := by omega
    rw [Nat.add_assoc, this] at c1
    rw [this] at g1
    rw [c1, ← hv, g1]
theorem ic_one (xs : List (Int × Int)) : ∀ u ∈ ic xs, u.oneCell' = true := by
  induction xs with
  | nil => intro u hu; cases hu
  | cons x xs ih =>
    intro u hu
    simp only [ic, List.mem_cons] at hu
    rcases hu with rfl | rfl | hu
    · rfl
    · rfl
    · exact ih u hu

theorem first_src {P : Program} {w : World} {a0 : Option Addr} {cap : Nat} {xs : List (Int × Int)} (h : SrcI w a0 xs) :
    (Builtin.firstCells 2 xs.length (.slice a0 xs.length cap)).run P w = .ok (ic xs).toArray w := by
  rcases h with rfl | ⟨b, off, rfl, hc⟩
  · cases a0 with
    | none => exact run_firstCells_none w 2 0 0 cap
    | some a => exact run_firstCells_some w 2 0 a 0 cap [] rfl (fun j v h => by simp at h)
  · exact run_firstCells_some w 2 xs.length ⟨b, off, none⟩ xs.length cap (ic xs) (by rw [ic_length]; omega) (ic_src hc)

/-- 'copy(out, xs)' into a row of just the right length. -/
theorem run_copy2 (w : World) (ty : TypeId) (g n cap dcap : Nat) (a0 : Option Addr) (xs : List (Int × Int)) (cur : Array Value) (hn : xs.length = n) (hs : SrcI w a0 xs)
    (hg : w.heap[g]? = some (.cells cur 32 (0, 0))) (hc : cur.size = 2 * n) :
    (Builtin.copy_ #[22, 22] ty #[.slice (some ⟨g, 0, none⟩) n dcap, .slice a0 n cap]).run Yba.prog w = .ok (goInt n) (w.setRow g (ic xs).toArray) := by
  obtain ⟨i0, hi, hz0, hz1, hz2⟩ := info_parts Yba.info32
  have hst := run_storeCells_at Yba.prog g 0 32 (ic xs) 0 cur w hg (by rw [ic_length]; omega) (ic_one xs)
  have hf : (Builtin.firstCells 2 n (.slice a0 n cap)).run Yba.prog w = .ok (ic xs).toArray w := by rw [← hn]; exact first_src hs
  have e : (cur.toList.take (0 + 0) ++ ic xs ++ cur.toList.drop (0 + 0 + (ic xs).length)).toArray = (ic xs).toArray := by
    rw [ic_length, List.drop_of_length_le (by simp; omega)]; simp
  rw [e] at hst
  have hm : Nat.min n n = n := Nat.min_self n
  simp [Builtin.copy_, run_underlying Yba.underlying22, Builtin.lenOf, sizeOf, typeInfo, hi, hz1, hm, hf, hst]

theorem wpList_copy2 {w : World} {ops : Array Oper} {rest : List Oper} {o : Oper} {a : Act} {Q : Exit → Act → World → Prop} (hgd : o.guard = none) (d s : Operand)
    (ho : o.op = .call { callee := .builtin .copy, args := #[d, s], argTypes := #[22, 22] }) (g n cap dcap : Nat) (a0 : Option Addr) (xs : List (Int × Int)) (cur : Array Value)
    (hd : a.eval d = .slice (some ⟨g, 0, none⟩) n dcap) (hs : a.eval s = .slice a0 n cap) (hn : xs.length = n) (hsrc : SrcI w a0 xs)
    (hg : w.heap[g]? = some (.cells cur 32 (0, 0))) (hc : cur.size = 2 * n)
    (h : wpList Yba.prog ops Q rest (a.put o.dst (goInt n)) (w.setRow g (ic xs).toArray)) : wpList Yba.prog ops Q (o :: rest) a w := by
  refine wpList_plain hgd fun K hK => ?_
  have hrun := run_copy2 w o.type g n cap dcap a0 xs cur hn hsrc hg hc
  unfold Oper.wp
  simp [execOp, ho, resolve, invoke, builtin, hd, hs, hrun, Result.andThen]
  exact hK _ _ h

/-- n zero entries. -/
def zrow (n : Nat) : List (Int × Int) := List.replicate n (0, 0)
theorem zrow_length (n : Nat) : (zrow n).length = n := by simp [zrow]
theorem gE_zrow (n j : Nat) (h : j < n) : gE (zrow n) j = (0, 0) := by rw [gE_eq (by rw [zrow_length]; exact h)]; simp [zrow]
theorem made_ic (n : Nat) : madeCells #[.int .i64 0, .int .u64 0] (n * 2) = (ic (zrow n)).toArray := by
  apply Array.ext_getElem?
  intro i
  by_cases hi : i < n * 2
  · have g := ic_get (zrow n) (i / 2) (by rw [zrow_length]; omega)
    rw [gE_zrow n _ (by omega)] at g
    rcases Nat.mod_two_eq_zero_or_one i with e | e
    · have h2 : i / 2 * 2 = i := by omega
      rw [h2] at g
      simp [madeCells, hi, e, g.1]
    · have h2 : i / 2 * 2 + 1 = i := by omega
      rw [h2] at g
      simp [madeCells, hi, e, g.2]
  · rw [Array.getElem?_eq_none (by rw [size_madeCells]; omega), Array.getElem?_eq_none (by simp [ic_length, zrow_length]; omega)]
theorem made_sc (n : Nat) : madeCells #[.int .i64 0, .int .u64 0, .pointer none] (n * 3) = (sc (zrow n)).toArray := by
  apply Array.ext_getElem?
  intro i
  by_cases hi : i < n * 3
  · have g := sc_get (zrow n) (i / 3) (by rw [zrow_length]; omega)
    rw [gE_zrow n _ (by omega)] at g
    have e3 : i % 3 = 0 ∨ i % 3 = 1 ∨ i % 3 = 2 := by omega
    rcases e3 with e | e | e
    · have h2 : i / 3 * 3 = i := by omega
      rw [h2] at g
      simp [madeCells, hi, e, g.1]
    · have h2 : i / 3 * 3 + 1 = i := by omega
      rw [h2] at g
      simp [madeCells, hi, e, g.2.1]
    · have h2 : i / 3 * 3 + 2 = i := by omega
      rw [h2] at g
      simp [madeCells, hi, e, g.2.2]
  · rw [Array.getElem?_eq_none (by rw [size_madeCells]; omega), Array.getElem?_eq_none (by simp [sc_length, zrow_length]; omega)]

theorem make_items (w : World) (n : Nat) (hn : n ≤ 4096) :
    (Instr.makeSlice 22 (.int .i64 (n : Int)) (.int .i64 (n : Int))).run Yba.prog w = .ok (.slice (some ⟨w.heap.size, 0, none⟩) n n) (w.alloc (.cells (ic (zrow n)).toArray 32)) := by
  obtain ⟨i0, hi, hz0, hz1, hz2⟩ := info_parts Yba.info32
  have := run_make (P := Yba.prog) w 22 32 i0 _ Yba.underlying22 hi hz0 .i64 .i64 n n (by omega) (Int.le_refl _) (by rw [hz2]; omega) (by omega)
  rw [hz1] at this
  simpa [Value.cells, made_ic] using this
theorem make_items0 (w : World) (n : Nat) (hn : n ≤ 4096) :
    (Instr.makeSlice 22 (.int .i64 0) (.int .i64 (n : Int))).run Yba.prog w = .ok (.slice (some ⟨w.heap.size, 0, none⟩) 0 n) (w.alloc (.cells (ic (zrow n)).toArray 32)) := by
  obtain ⟨i0, hi, hz0, hz1, hz2⟩ := info_parts Yba.info32
  have := run_make (P := Yba.prog) w 22 32 i0 _ Yba.underlying22 hi hz0 .i64 .i64 0 n (by omega) (by omega) (by rw [hz2]; omega) (by omega)
  rw [hz1] at this
  simpa [Value.cells, made_ic] using this
theorem make_scheds (w : World) (n : Nat) (hn : n ≤ 4096) :
    (Instr.makeSlice 24 (.int .i64 (n : Int)) (.int .i64 (n : Int))).run Yba.prog w = .ok (.slice (some ⟨w.heap.size, 0, none⟩) n n) (w.alloc (.cells (sc (zrow n)).toArray 29)) := by
  obtain ⟨i0, hi, hz0, hz1, hz2⟩ := info_parts Yba.info29
  have := run_make (P := Yba.prog) w 24 29 i0 _ Yba.underlying24 hi hz0 .i64 .i64 n n (by omega) (Int.le_refl _) (by rw [hz2]; omega) (by omega)
  rw [hz1] at this
  simpa [Value.cells, made_sc] using this
end Go.Proofs.Ybulkboha
