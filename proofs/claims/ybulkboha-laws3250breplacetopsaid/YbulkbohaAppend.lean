import Derived.Test.YbulkbohaCopy
import Derived.Deep.AppendSrc
import Derived.Deep.RegionLaw
namespace Go.Proofs.Ybulkboha
open Go.RowKit
set_option linter.unusedVariables false

/-- a slice value that holds the heap xs, in a block of the call's own (from base on), or nil. -/
def HeapV (w : World) (base : Nat) (v : Value) (xs : List (Int × Int)) : Prop :=
  (v = .slice none 0 0 ∧ xs = []) ∨ ∃ b rest, v = .slice (some ⟨b, 0, none⟩) xs.length (xs ++ rest).length ∧ base ≤ b ∧ b < w.heap.size ∧ RowS w b (xs ++ rest)

theorem sc_one (xs : List (Int × Int)) : ∀ u ∈ sc xs, u.oneCell' = true := by
  induction xs with
  | nil => intro u hu; cases hu
  | cons x xs ih =>
    intro u hu
    simp only [sc, List.mem_cons] at hu
    rcases hu with rfl | rfl | rfl | hu
    · rfl
    · rfl
    · rfl
    · exact ih u hu

theorem zero_sc (n : Nat) : Builtin.zeroCells (Value.agg #[.int .i64 0, .int .u64 0, .pointer none]).cells n = (sc (zrow n)).toArray := by
  rw [← made_sc]; rfl

theorem box_src {w : World} {c : Nat} {s : Int × Int} (h : BoxS w c s) : Src Yba.prog 3 24 (.slice (some ⟨c, 0, none⟩) 1 1) 1 (sc [s]) w := by
  refine Src.ofSlice w Yba.underlying24 ⟨c, 0, none⟩ 1 1 (sc [s]) rfl ?_ (sc_one _)
  intro j u hu
  rw [Addr.add_lit, Nat.zero_add, cell_of_row w c _ _ 29 _ h]
  simpa [sc] using hu

theorem row_cells {w : World} {b : Nat} {ys : List (Int × Int)} (h : RowS w b ys) (o : Nat) (ho : o < 3 * ys.length) : (w.cell? ⟨b, o, none⟩).isSome = true := by
  rw [cell_of_row w b _ _ 29 _ h]
  simp [sc_length, ho]

theorem set_next (xs : List (Int × Int)) (s y : Int × Int) (rest : List (Int × Int)) : (xs ++ (y :: rest)).set xs.length s = (xs ++ [s]) ++ rest := by
  rw [List.set_append_right _ _ (Nat.le_refl _), Nat.sub_self]
  simp

/-- append of one entry onto a heap of the call's own. -/
theorem run_appS (w : World) (ty : TypeId) (base c : Nat) (v : Value) (xs : List (Int × Int)) (s : Int × Int) (hv : HeapV w base v xs) (hc : BoxS w c s) (hlim : xs.length < 4096) (hbase : base ≤ w.heap.size) :
    ∃ b' rest' w', (Builtin.append_ #[24, 24] ty #[v, .slice (some ⟨c, 0, none⟩) 1 1]).run Yba.prog w = .ok (.slice (some ⟨b', 0, none⟩) (xs.length + 1) (((xs ++ [s]) ++ rest').length)) w' ∧
      RowS w' b' ((xs ++ [s]) ++ rest') ∧ base ≤ b' ∧ b' < w'.heap.size ∧ Oth b' w.heap.size w w' ∧ (v = .slice (some ⟨b', 0, none⟩) xs.length (((xs ++ [s]) ++ rest').length) ∨ b' = w.heap.size) := by
  obtain ⟨i0, hi, hz0, hz1, hz2⟩ := info_parts Yba.info29
  have hsrc := box_src hc
  rw [← hz1] at hsrc
  -- the arm that grows
  have grow : ∀ (ao : Option Addr) (cap : Nat), (Builtin.firstCells i0.size xs.length (.slice ao xs.length cap)).run Yba.prog w.drew = .ok (sc xs).toArray w.drew → cap ≤ xs.length →
      ∃ b' rest' w', (Builtin.append_ #[24, 24] ty #[.slice ao xs.length cap, .slice (some ⟨c, 0, none⟩) 1 1]).run Yba.prog w = .ok (.slice (some ⟨b', 0, none⟩) (xs.length + 1) (((xs ++ [s]) ++ rest').length)) w' ∧
      RowS w' b' ((xs ++ [s]) ++ rest') ∧ base ≤ b' ∧ b' < w'.heap.size ∧ Oth b' w.heap.size w w' ∧ b' = w.heap.size := by
    intro ao cap hold hcap
    have hg := run_append_grow_src (P := Yba.prog) w 24 24 ty 29 i0 _ Yba.underlying24 hi hz0 ao xs.length cap (sc xs) hold (.slice (some ⟨c, 0, none⟩) 1 1) 1 (sc [s]) hsrc (by omega) (by omega)
      (by rw [hz2]; exact growslice_fits (by omega) (by omega))
    have hge := grownCap_ge w (xs.length + 1) cap 29
    generalize grownCap w (xs.length + 1) cap 29 = C at hg hge
    refine ⟨w.heap.size, zrow (C - (xs.length + 1)), w.drew.alloc (.cells ((sc xs ++ sc [s]).toArray ++ Builtin.zeroCells (Value.agg #[.int .i64 0, .int .u64 0, .pointer none]).cells (C - (xs.length + 1))) 29), ?_, ?_, hbase, ?_, ?_, rfl⟩
    · rw [hg]
      have : ((xs ++ [s]) ++ zrow (C - (xs.length + 1))).length = C := by simp [zrow_length]; omega
      rw [this]
    · unfold RowS
      rw [show w.heap.size = w.drew.heap.size from rfl, heap_alloc_new, zero_sc, sc_append, sc_append]
      simp
    · simp
    · have hb : Below w.heap.size w (w.drew.alloc (.cells ((sc xs ++ sc [s]).toArray ++ Builtin.zeroCells (Value.agg #[.int .i64 0, .int .u64 0, .pointer none]).cells (C - (xs.length + 1))) 29)) := (Below.refl _ _).drew.alloc (Nat.le_refl _) _
      exact (Oth.refl _ _ _).below hb
  rcases hv with ⟨rfl, rfl⟩ | ⟨b, rest, rfl, hb1, hb2, hrow⟩
  · obtain ⟨b', rest', w', h1, h2, h3, h4, h5, h6⟩ := grow none 0 (run_firstCells_none w.drew i0.size 0 0 0) (Nat.le_refl _)
    exact ⟨b', rest', w', h1, h2, h3, h4, h5, .inr h6⟩
  · cases rest with
    | nil =>
      rw [List.append_nil] at hrow ⊢
      have hold : (Builtin.firstCells i0.size xs.length (.slice (some ⟨b, 0, none⟩) xs.length xs.length)).run Yba.prog w.drew = .ok (sc xs).toArray w.drew := by
        refine run_firstCells_some w.drew i0.size xs.length ⟨b, 0, none⟩ xs.length xs.length (sc xs) (by rw [hz1, sc_length]; omega) ?_
        intro j u hu
        rw [Addr.add_lit, Nat.zero_add]
        show w.cell? _ = _
        rw [cell_of_row w b _ _ 29 _ hrow]
        simpa using hu
      obtain ⟨b', rest', w', h1, h2, h3, h4, h5, h6⟩ := grow (some ⟨b, 0, none⟩) xs.length hold (Nat.le_refl _)
      exact ⟨b', rest', w', h1, h2, h3, h4, h5, .inr h6⟩
    | cons y rest =>
      have hl : (xs ++ (y :: rest)).length = ((xs ++ [s]) ++ rest).length := by simp
      have hn : (sc [s]).length = 3 := rfl
      have hr := run_append_room_src (P := Yba.prog) w 24 24 ty 29 i0 Yba.underlying24 hi b 0 xs.length (xs ++ (y :: rest)).length (.slice (some ⟨c, 0, none⟩) 1 1) 1 (sc [s]) hsrc (by simp)
        (fun j hj => row_cells hrow _ (by rw [hn] at hj; rw [hz1]; simp; omega)) (fun j hj => hrow.free _)
      rw [hz1, Nat.zero_add] at hr
      have hset : w.setCells b (xs.length * 3) (sc [s]) = ((w.setCell ⟨b, xs.length * 3, none⟩ (.int .i64 s.1)).setCell ⟨b, xs.length * 3 + 1, none⟩ (.int .u64 s.2)).setCell ⟨b, xs.length * 3 + 2, none⟩ (.pointer none) := rfl
      rw [hset] at hr
      have hrow2 := hrow.set xs.length s (by simp)
      rw [set_next] at hrow2
      rw [hl] at hr ⊢
      exact ⟨b, rest, _, hr, hrow2, hb1, by simpa [World.setCell] using hb2, ((((Oth.refl _ _ _).set _ _).set _ _).set _ _), .inl rfl⟩

theorem step_appS {ops : Array Oper} {o : Oper} {a : Act} {w : World} {K : Act → World → Prop} {Q : Exit → Act → World → Prop} {E : Prop} (hgd : o.guard = none) (sl x : Operand)
    (ho : o.op = .call { callee := .builtin .append, args := #[sl, x], argTypes := #[24, 24] }) (base c : Nat) (v : Value) (xs : List (Int × Int)) (s : Int × Int) (hs : a.eval sl = v) (hx : a.eval x = .slice (some ⟨c, 0, none⟩) 1 1)
    (hv : HeapV w base v xs) (hc : BoxS w c s) (hlim : xs.length < 4096) (hbase : base ≤ w.heap.size)
    (h : ∀ b' rest' w', RowS w' b' ((xs ++ [s]) ++ rest') → base ≤ b' → b' < w'.heap.size → Oth b' w.heap.size w w' → (v = .slice (some ⟨b', 0, none⟩) xs.length (((xs ++ [s]) ++ rest').length) ∨ b' = w.heap.size) →
      K (a.put o.dst (.slice (some ⟨b', 0, none⟩) (xs.length + 1) (((xs ++ [s]) ++ rest').length))) w') :
    if Region.wanted o (yielded ops a.tmps) = true then Oper.wp Yba.prog o a w K Q else E := by
  have hw : Region.wanted o (yielded ops a.tmps) = true := by simp [Region.wanted, hgd]
  rw [if_pos hw]
  obtain ⟨b', rest', w', hrun, h1, h2, h3, h4, h5⟩ := run_appS w o.type base c v xs s hv hc hlim hbase
  have h' := h b' rest' w' h1 h2 h3 h4 h5
  generalize ((xs ++ [s]) ++ rest').length = C at h' hrun
  unfold Oper.wp
  simp [execOp, ho, resolve, invoke, builtin, hs, hx, hrun, Result.andThen]
  exact h'
end Go.Proofs.Ybulkboha
