import Derived.Test.YbulkbohaCopy
import Derived.Deep.AppendSrc
namespace Go.Proofs.Ybulkboha
open Go.RowKit
set_option linter.unusedVariables false

theorem heap_setCells_same (g t : Nat) : ∀ (vs : List Value) (o : Nat) (w : World) (cs : Array Value), w.heap[g]? = some (.cells cs t (0, 0)) → o + vs.length ≤ cs.size →
    ∃ cs' : Array Value, (w.setCells g o vs).heap[g]? = some (.cells cs' t (0, 0)) ∧ cs'.size = cs.size ∧ ∀ j, cs'[j]? = if o ≤ j ∧ j < o + vs.length then vs[j - o]? else cs[j]?
  | [], o, w, cs, h, _ => ⟨cs, h, rfl, fun j => by rw [if_neg (by simp only [List.length_nil]; omega)]⟩
  | v :: vs, o, w, cs, h, hl => by
    simp only [List.length_cons] at hl
    obtain ⟨cs', h1, h2, h3⟩ := heap_setCells_same g t vs (o + 1) (w.setCell ⟨g, o, none⟩ v) _ (heap_setCell_same w g o cs t v h) (by simp; omega)
    refine ⟨cs', h1, by rw [h2]; simp, fun j => ?_⟩
    rw [h3 j]
    by_cases c1 : o + 1 ≤ j ∧ j < o + 1 + vs.length
    · rw [if_pos c1, if_pos (by simp only [List.length_cons]; omega), show j - o = (j - (o + 1)) + 1 by omega, List.getElem?_cons_succ]
    · rw [if_neg c1]
      by_cases c2 : j = o
      · subst c2
        rw [if_pos (by simp only [List.length_cons]; omega), Nat.sub_self, List.getElem?_cons_zero, Array.getElem?_setIfInBounds_self, if_pos (by omega)]
      · rw [if_neg (by simp only [List.length_cons]; omega), Array.getElem?_setIfInBounds_ne (by omega)]
theorem setCells_row {g t : Nat} {L vs : List Value} {o : Nat} {w : World} (h : w.heap[g]? = some (.cells L.toArray t (0, 0))) (hl : o + vs.length ≤ L.length) :
    (w.setCells g o vs).heap[g]? = some (.cells (L.take o ++ vs ++ L.drop (o + vs.length)).toArray t (0, 0)) := by
  obtain ⟨cs', h1, h2, h3⟩ := heap_setCells_same g t vs o w _ h (by simpa using hl)
  rw [h1]
  have : cs' = (L.take o ++ vs ++ L.drop (o + vs.length)).toArray := by
    apply Array.ext_getElem?
    intro j
    rw [h3 j]
    simp only [List.getElem?_toArray]
    have ht : (L.take o).length = o := by rw [List.length_take]; omega
    by_cases c1 : j < o
    · rw [if_neg (by omega), List.append_assoc, List.getElem?_append_left (by omega), List.getElem?_take_of_lt c1]
    · by_cases c2 : j < o + vs.length
      · rw [if_pos (by omega), List.append_assoc, List.getElem?_append_right (by omega), ht, List.getElem?_append_left (by omega)]
      · rw [if_neg (by omega), List.getElem?_append_right (by simp; omega), List.getElem?_drop, List.length_append, ht]
        congr 1; omega
  rw [this]
theorem setCells_other (g : Nat) : ∀ (vs : List Value) (o : Nat) (w : World) (k : Nat), k ≠ g → (w.setCells g o vs).heap[k]? = w.heap[k]?
  | [], _, _, _, _ => rfl
  | v :: vs, o, w, k, h => by
    show ((w.setCell ⟨g, o, none⟩ v).setCells g (o + 1) vs).heap[k]? = _
    rw [setCells_other g vs (o + 1) _ k h, Below.heap_setCell _ _ _ _ h]
theorem setCells_rest (g : Nat) : ∀ (vs : List Value) (o : Nat) (w : World), (w.setCells g o vs).os = w.os ∧ (w.setCells g o vs).tape = w.tape ∧ (w.setCells g o vs).output = w.output ∧ (w.setCells g o vs).heap.size = w.heap.size
  | [], _, _ => ⟨rfl, rfl, rfl, rfl⟩
  | v :: vs, o, w => by
    obtain ⟨a, b, c, d⟩ := setCells_rest g vs (o + 1) (w.setCell ⟨g, o, none⟩ v)
    exact ⟨a, b, c, d.trans (by simp [World.setCell])⟩

theorem src_of {w : World} {a0 : Option Addr} {xs : List (Int × Int)} {n c : Nat} (hn : xs.length = n) (h : SrcI w a0 xs) (hz : xs = [] → True) : Src Yba.prog 2 22 (.slice a0 n c) n (ic xs) w := by
  refine ⟨.inl ⟨32, Yba.underlying22⟩, fun _ => rfl, ?_, ?_, by rw [ic_length, hn]; omega, ic_one xs⟩
  · rw [← hn]; exact first_src h
  · rw [← hn]; exact first_src (w := w.drew) (by
      rcases h with h | ⟨b, off, h1, h2⟩
      · exact .inl h
      · exact .inr ⟨b, off, h1, h2⟩)

/-- append of items where there is room, in a row of the call's own. -/
theorem run_appI (w : World) (ty : TypeId) (g m cap k c : Nat) (a0 : Option Addr) (ys news rest : List (Int × Int)) (hrow : RowI w g (ys ++ rest)) (hm : ys.length = m) (hk : news.length = k) (hs : SrcI w a0 news) (hr : k ≤ rest.length) (hcap : m + k ≤ cap) :
    ∃ w', (Builtin.append_ #[22, 22] ty #[.slice (some ⟨g, 0, none⟩) m cap, .slice a0 k c]).run Yba.prog w = .ok (.slice (some ⟨g, 0, none⟩) (m + k) cap) w' ∧ RowI w' g ((ys ++ news) ++ rest.drop k) ∧ Oth g w.heap.size w w' ∧ w'.heap.size = w.heap.size := by
  obtain ⟨i0, hi, hz0, hz1, hz2⟩ := info_parts Yba.info32
  have hsrc := src_of (c := c) hk hs (fun _ => trivial)
  rw [← hz1] at hsrc
  have hl : (ic news).length = 2 * k := by rw [ic_length, hk]
  have hx := run_append_room_src (P := Yba.prog) w 22 22 ty 32 i0 Yba.underlying22 hi g 0 m cap (.slice a0 k c) k (ic news) hsrc hcap
    (fun j hj => by
      rw [hl] at hj
      rw [cell_of_row w g _ _ 32 _ hrow, hz1]
      simp [ic_length]; omega)
    (fun j hj => hrow.free _)
  rw [hz1, Nat.zero_add] at hx
  obtain ⟨r1, r2, r3, r4⟩ := setCells_rest g (ic news) (m * 2) w
  refine ⟨_, hx, ?_, ⟨r1, r2, r3, by rw [r4]; exact Nat.le_refl _, fun i _ hn => setCells_other g _ _ _ i hn⟩, r4⟩
  unfold RowI
  rw [setCells_row hrow (by rw [hl, ic_length, List.length_append]; omega)]
  have e : (ic (ys ++ rest)).take (m * 2) ++ ic news ++ (ic (ys ++ rest)).drop (m * 2 + (ic news).length) = ic ((ys ++ news) ++ rest.drop k) := by
    rw [ic_append ys rest, ic_append (ys ++ news), ic_append ys news, hl]
    have h1 : (ic ys).length = m * 2 := by rw [ic_length, hm]; omega
    rw [← h1, List.take_left, List.drop_append]
    have h2 : (ic ys).drop ((ic ys).length + 2 * k) = [] := List.drop_of_length_le (by omega)
    have h3 : (ic rest).drop ((ic ys).length + 2 * k - (ic ys).length) = ic (rest.drop k) := by
      rw [Nat.add_sub_cancel_left]
      conv => lhs; rw [show rest = rest.take k ++ rest.drop k from (List.take_append_drop k rest).symm, ic_append]
      rw [List.drop_append, List.drop_of_length_le (by rw [ic_length, List.length_take]; omega), List.nil_append]
      rw [show 2 * k - (ic (rest.take k)).length = 0 by rw [ic_length, List.length_take]; omega, List.drop_zero]
    rw [h2, h3, List.nil_append]
  rw [e]

theorem wpList_appI {w : World} {ops : Array Oper} {rst : List Oper} {o : Oper} {a : Act} {Q : Exit → Act → World → Prop} (hgd : o.guard = none) (d s : Operand)
    (ho : o.op = .call { callee := .builtin .append, args := #[d, s], argTypes := #[22, 22] }) (g m cap k c : Nat) (a0 : Option Addr) (ys news rest : List (Int × Int))
    (hd : a.eval d = .slice (some ⟨g, 0, none⟩) m cap) (hs : a.eval s = .slice a0 k c) (hrow : RowI w g (ys ++ rest)) (hm : ys.length = m) (hk : news.length = k) (hsrc : SrcI w a0 news) (hr : k ≤ rest.length) (hcap : m + k ≤ cap)
    (h : ∀ w', RowI w' g ((ys ++ news) ++ rest.drop k) → Oth g w.heap.size w w' → w'.heap.size = w.heap.size → wpList Yba.prog ops Q rst (a.put o.dst (.slice (some ⟨g, 0, none⟩) (m + k) cap)) w') : wpList Yba.prog ops Q (o :: rst) a w := by
  refine wpList_plain hgd fun K hK => ?_
  obtain ⟨w', hrun, h1, h2, h3⟩ := run_appI w o.type g m cap k c a0 ys news rest hrow hm hk hsrc hr hcap
  unfold Oper.wp
  simp [execOp, ho, resolve, invoke, builtin, hd, hs, hrun, Result.andThen]
  exact hK _ _ (h w' h1 h2 h3)
end Go.Proofs.Ybulkboha
