import Derived.Test.YbulkbogmSum
namespace Go.Proofs.Ybulkbogm
open Go.RowKit
set_option linter.unusedVariables false

theorem heap_setCells_same (g t : Nat) : ∀ (vs : List Value) (o : Nat) (w : World) (cs : Array Value), w.heap[g]? = some (.cells cs t (0, 0)) → o + vs.length ≤ cs.size →
    ∃ cs' : Array Value, (w.setCells g o vs).heap[g]? = some (.cells cs' t (0, 0)) ∧ cs'.size = cs.size ∧ ∀ j, cs'[j]? = if o ≤ j ∧ j < o + vs.length then vs[j - o]? else cs[j]?
  | [], o, w, cs, h, _ => ⟨cs, h, rfl, fun j => by rw [if_neg (by simp only [List.length_nil]; omega)]⟩
  | v :: vs, o, w, cs, h, hl => by
    simp only [List.length_cons] at hl
    obtain ⟨cs', h1, h2, h3⟩ := heap_setCells_same g t vs (o + 1) (w.setCell ⟨g, o, none⟩ v) _ (heap_setCell_same w g o cs t v h) (by simp; omega)
    refine ⟨cs', h1, by rw [h2]; simp, fun j => ?_⟩
    rw [h3 j]
    by_cases c1 : o + 1 ≤ j ∧ j < o + 1 + vs.length
    · rw [if_pos c1, if_pos (by simp only [List.length_cons]; omega), show j - o = (j - (o + 1)) + 1 by omega, List.getElem?_cons_succ]
    · rw [if_neg c1]
      by_cases c2 : j = o
      · subst c2
        rw [if_pos (by simp only [List.length_cons]; omega), Nat.sub_self, List.getElem?_cons_zero, Array.getElem?_setIfInBounds_self, if_pos (by omega)]
      · rw [if_neg (by simp only [List.length_cons]; omega), Array.getElem?_setIfInBounds_ne (by omega)]

theorem setCells_other (g : Nat) : ∀ (vs : List Value) (o : Nat) (w : World) (k : Nat), k ≠ g → (w.setCells g o vs).heap[k]? = w.heap[k]?
  | [], _, _, _, _ => rfl
  | v :: vs, o, w, k, h => by
    show ((w.setCell ⟨g, o, none⟩ v).setCells g (o + 1) vs).heap[k]? = _
    rw [setCells_other g vs (o + 1) _ k h, Below.heap_setCell _ _ _ _ h]
theorem setCells_rest (g : Nat) : ∀ (vs : List Value) (o : Nat) (w : World), (w.setCells g o vs).os = w.os ∧ (w.setCells g o vs).tape = w.tape ∧ (w.setCells g o vs).output = w.output ∧ (w.setCells g o vs).heap.size = w.heap.size
  | [], _, _ => ⟨rfl, rfl, rfl, rfl⟩
  | v :: vs, o, w => by
    obtain ⟨a, b, c, d⟩ := setCells_rest g vs (o + 1) (w.setCell ⟨g, o, none⟩ v)
    exact ⟨a, b, c, d.trans (by simp [World.setCell])⟩

/-- the cells of a struct zzs3249bh. -/
def hObj (v : Value) (s o l c : Int) : Array Value := #[v, .int .i64 s, .int .i64 o, .int .i64 l, .int .i64 c]
def zero32 : Array Value := Array.replicate 32 (.int .u8 0)
/-- what digest leaves: the bytes appended where they fit. -/
def wantZ (zs : List Int) (j : Nat) : Int := if zs.length ≤ 32 then zs[j]?.getD 0 else 0
def wantArr (zs : List Int) : Array Value := Array.ofFn (n := 32) fun j => Value.int .u8 (wantZ zs j.val)

theorem wantArr_get (zs : List Int) (j : Nat) (h : j < 32) : (wantArr zs)[j]? = some (.int .u8 (wantZ zs j)) := by
  simp [wantArr, h]
theorem wantArr_size (zs : List Int) : (wantArr zs).size = 32 := by simp [wantArr]

/-- a change of the blocks bs and bi alone; new blocks may have come. -/
structure But (bs bi : Nat) (w w' : World) : Prop where
  os : w'.os = w.os
  tape : w'.tape = w.tape
  output : w'.output = w.output
  size : w.heap.size ≤ w'.heap.size
  block : ∀ k, k < w.heap.size → k ≠ bs → k ≠ bi → w'.heap[k]? = w.heap[k]?

theorem sumW_bs {w : World} {bs t : Nat} {v : Value} (h : w.heap[bs]? = some (.cells (hObj v 0 0 0 0) t (0, 0))) : (sumW w bs).heap[bs]? = some (.cells (hObj v 1 0 0 32) t (0, 0)) := by
  unfold sumW
  rw [heap_setCell_same _ bs 4 _ t _ (heap_setCell_same _ bs 3 _ t _ (heap_setCell_same _ bs 1 _ t _ h))]
  rfl
theorem sumW_other {w : World} {bs k : Nat} (h : k ≠ bs) : (sumW w bs).heap[k]? = w.heap[k]? := by
  unfold sumW
  rw [Below.heap_setCell _ _ _ _ h, Below.heap_setCell _ _ _ _ h, Below.heap_setCell _ _ _ _ h]
theorem sumW_size {w : World} {bs : Nat} : (sumW w bs).heap.size = w.heap.size := by
  simp [sumW, World.setCell]

/-- what the walk is told of the argument. -/
def IsRow (k : IntKind) (w : World) (a : Option Addr) (len cap : Nat) (zs : List Int) : Prop :=
  (a = none ∧ len = 0 ∧ cap = 0 ∧ zs = []) ∨
  ∃ x, a = some x ∧ len ≤ cap ∧ cap ≤ maxLen ∧ zs.length = cap ∧ (∀ i, i < zs.length → w.cell? (x.add i) = some (.int k (zs.getD i 0))) ∧ ∀ n ∈ zs, (Lit.int k n).wf = true

theorem sum_blocks (bs bi : Nat) (a0 : Option Addr) (len cap : Nat) (zs : List Int) (w0 w : World) (hne : bi ≠ bs) (hbl : bs < w.heap.size ∧ bi < w.heap.size)
    (hb0 : w0.heap.size ≤ bs ∧ w0.heap.size ≤ bi) (hbel : Below w0.heap.size w0 w) (hr : IsRow .u8 w0 a0 len cap zs) (hlen : len ≤ 1024)
    (hs : w.heap[bs]? = some (.cells (hObj (.slice a0 len cap) 0 0 0 0) 25 (0, 0))) (hi : w.heap[bi]? = some (.cells zero32 27 (0, 0))) :
    Calls Yba.prog 27 #[.pointer (some ⟨bs, 0, none⟩), .slice (some ⟨bi, 0, none⟩) 0 32] w fun e w' =>
      ∃ v, e = .returned v ∧ w'.heap[bs]? = some (.cells (hObj (.slice a0 len cap) 1 0 0 32) 25 (0, 0)) ∧
        w'.heap[bi]? = some (.cells (wantArr (zs.take len)) 27 (0, 0)) ∧ But bs bi w w' := by
  have hc : ∀ o, w.cell? ⟨bs, o, none⟩ = (hObj (.slice a0 len cap) 0 0 0 0)[o]? := fun o => cell_of_row w bs o _ 25 _ hs
  have hf : ∀ o, w.frozen? ⟨bs, o, none⟩ = false := fun o => frozen_of_row w bs o _ 25 hs
  rcases hr with ⟨rfl, rfl, rfl, rfl⟩ | ⟨x, rfl, hl, hm, hz, hcell, _⟩
  · refine (sum_nil bs bi w (hc 0) (hc 1) (hc 2) (hc 3) (hc 4) (hf 1) (hf 3) (hf 4)).mono ?_
    rintro e w' ⟨v, rfl, rfl⟩
    refine ⟨v, rfl, sumW_bs hs, ?_, ⟨rfl, rfl, rfl, by rw [sumW_size]; exact Nat.le_refl _, fun k _ h1 _ => sumW_other h1⟩⟩
    rw [sumW_other hne, hi]
    rfl
  · have hzl : (zs.take len).length = len := by rw [List.length_take]; omega
    have hadd : ∀ j, j < len → (x.add j).block < w0.heap.size := fun j hj => block_lt_of_cell (hcell j (by omega))
    refine (sum_any bs bi x len cap (zs.take len) w hne (hc 0) (hc 1) (hc 2) (hc 3) (hc 4) (hf 1) (hf 3) (hf 4) hlen hzl (fun j hj => by have := hadd j hj; omega) ?_ ?_).mono ?_
    · intro j u hu
      have hj : j < len := by have := (List.getElem?_eq_some_iff.1 hu).1; rw [rowVals, List.length_map, hzl] at this; exact this
      rw [hbel.cell (hadd j hj), hcell j (by omega)]
      rw [← hu, rowVals, List.getElem?_map, List.getElem?_take_of_lt hj]
      rw [List.getD_eq_getElem?_getD, List.getElem?_eq_getElem (show j < zs.length by omega)]
      rfl
    · intro j hj
      rw [cell_of_row w bi j _ 27 _ hi, frozen_of_row w bi j _ 27 hi]
      simp [zero32, hj]
    · rintro e w' ⟨v, rfl, ⟨hle, rfl⟩ | ⟨hgt, hg⟩⟩
      · have hsz : (sumW w bs).heap[bi]? = some (.cells zero32 27 (0, 0)) := by rw [sumW_other hne, hi]
        have hvl : (rowVals (zs.take len)).length = len := by rw [rowVals, List.length_map, hzl]
        obtain ⟨cs', h1, h2, h3⟩ := heap_setCells_same bi 27 (rowVals (zs.take len)) 0 (sumW w bs) zero32 hsz (by rw [hvl]; simp [zero32]; omega)
        obtain ⟨r1, r2, r3, r4⟩ := setCells_rest bi (rowVals (zs.take len)) 0 (sumW w bs)
        refine ⟨v, rfl, ?_, ?_, ⟨r1, r2, r3, by rw [r4, sumW_size]; exact Nat.le_refl _, fun k _ k1 k2 => by rw [setCells_other bi _ _ _ k k2, sumW_other k1]⟩⟩
        · rw [setCells_other bi _ _ _ bs (Ne.symm hne), sumW_bs hs]
        · have hcs : cs' = wantArr (zs.take len) := by
            apply Array.ext_getElem?
            intro j
            rw [h3 j, hvl]
            by_cases hj : j < 32
            · rw [wantArr_get _ _ hj]
              unfold wantZ
              rw [hzl, if_pos hle]
              by_cases hjl : j < len
              · rw [if_pos (by omega), Nat.sub_zero, rowVals, List.getElem?_map, List.getElem?_eq_getElem (show j < (zs.take len).length by omega)]
                rfl
              · rw [if_neg (by omega), List.getElem?_eq_none (by omega)]
                simp [zero32, hj]
            · rw [if_neg (by omega)]
              rw [Array.getElem?_eq_none (by simp [zero32]; omega), Array.getElem?_eq_none (by rw [wantArr_size]; omega)]
          rw [h1, hcs]
      · have k : ∀ q, q < w.heap.size → w'.heap[q]? = (sumW w bs).heap[q]? := fun q hq => hg.block q (by rw [sumW_size]; exact hq) (by simp)
        refine ⟨v, rfl, by rw [k bs hbl.1, sumW_bs hs], ?_, ⟨hg.os, hg.tape, hg.output, by have := hg.size; rw [sumW_size] at this; exact this, fun q h0 h1 _ => by rw [k q h0, sumW_other h1]⟩⟩
        rw [k bi hbl.2, sumW_other hne, hi]
        have : zero32 = wantArr (zs.take len) := by
          apply Array.ext_getElem?
          intro j
          by_cases hj : j < 32
          · rw [wantArr_get _ _ hj]
            unfold wantZ
            rw [hzl, if_neg (by omega)]
            simp [zero32, hj]
          · rw [Array.getElem?_eq_none (by simp [zero32]; omega), Array.getElem?_eq_none (by rw [wantArr_size]; omega)]
        rw [this]
end Go.Proofs.Ybulkbogm
