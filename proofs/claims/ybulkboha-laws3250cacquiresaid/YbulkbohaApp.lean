import Derived.Test.YbulkbohaFlat
import Derived.Laws.AppendOwn
import Derived.OwnWalk
namespace Go.Proofs.Ybulkboha
open Go.RowKit
set_option linter.unusedVariables false

/-- append onto a slice that is its own. -/
theorem run_app (w : World) {T t ty : TypeId} {k y : Nat} {z : Value} (hT : Yba.prog.underlying T = some (.slice t)) (hinfo : (Yba.prog.info? t).map (fun i => (i.zero, i.size, i.bytes)) = some (some z, k, y))
    (hzk : z.cells.size = k) (hy : y ≤ 64) {v : Value} {n : Nat} {vs : List Value} (hv : Own w k t v n vs) {x : Value} {m : Nat} {us : List Value} (hs : Src Yba.prog k T x m us w) (hm : 0 < m ∨ v ≠ .slice none 0 0) (hlim : n + m ≤ 4096) :
    ∃ v' w', (Builtin.append_ #[T, T] ty #[v, x]).run Yba.prog w = .ok v' w' ∧ Own w' k t v' (n + m) (vs ++ us) ∧ Chg (InV v) w w' ∧ ((∀ b, InV v' b → InV v b) ∨ ∃ c, v' = .slice (some ⟨w.heap.size, 0, none⟩) (n + m) c) ∧ v' ≠ .slice none 0 0 := by
  obtain ⟨i0, hi, hz0, hz1, hz2⟩ := info_parts hinfo
  have hus := hs.newsLen
  have grow : ∀ (ao : Option Addr) (cap : Nat), (Builtin.firstCells i0.size n (.slice ao n cap)).run Yba.prog w.drew = .ok vs.toArray w.drew → cap < n + m →
      ∃ v' w', (Builtin.append_ #[T, T] ty #[.slice ao n cap, x]).run Yba.prog w = .ok v' w' ∧ Own w' k t v' (n + m) (vs ++ us) ∧ Chg (fun _ => False) w w' ∧ (∃ c, v' = .slice (some ⟨w.heap.size, 0, none⟩) (n + m) c) := by
    intro ao cap hold hcap
    rw [← hz1] at hs
    have hg := run_append_grow_src (P := Yba.prog) w T T ty t i0 _ hT hi hz0 ao n cap vs hold x m us hs hcap (by omega)
      (by rw [hz2]; exact growslice_fits hcap (by have : (n + m) * y ≤ 4096 * 64 := Nat.mul_le_mul hlim hy; omega))
    have hge := grownCap_ge w (n + m) cap t
    generalize grownCap w (n + m) cap t = C at hg hge
    refine ⟨_, _, hg, ?_, ?_, ⟨C, rfl⟩⟩
    · refine ⟨by rw [List.length_append, hv.1, hus, Nat.add_mul], .inr ⟨w.heap.size, C, (Builtin.zeroCells z.cells (C - (n + m))).toList, rfl, hge, ?_, ?_⟩⟩
      · rw [Array.length_toList, size_zeroCells, hzk]
      · unfold Flat
        have e : (vs ++ us).toArray ++ Builtin.zeroCells z.cells (C - (n + m)) = ((vs ++ us) ++ (Builtin.zeroCells z.cells (C - (n + m))).toList).toArray := by
          apply Array.ext'
          simp
        rw [show w.heap.size = w.drew.heap.size from rfl, heap_alloc_new, e]
    · exact Chg.of_below ((Below.refl _ _).drew.alloc (Nat.le_refl _) _)
  rcases hv.2 with ⟨rfl, rfl⟩ | ⟨b, cap, rest, rfl, hcap, hrest, hrow⟩
  · have h0 : vs = [] := List.eq_nil_of_length_eq_zero (by rw [hv.1]; omega)
    subst h0
    have hm' : 0 < m := by
      rcases hm with h | h
      · exact h
      · exact absurd rfl h
    obtain ⟨v', w', h1, h2, h3, h4⟩ := grow none 0 (run_firstCells_none w.drew i0.size 0 0 0) (by omega)
    exact ⟨v', w', h1, h2, h3.mono (fun _ _ h => h.elim), .inr h4, by obtain ⟨c, rfl⟩ := h4; simp⟩
  · by_cases hr : n + m ≤ cap
    · rw [← hz1] at hs
      have hk : us.length ≤ rest.length := by rw [hus, hrest]; exact Nat.mul_le_mul_right _ (by omega)
      have hroom := run_append_room_src (P := Yba.prog) w T T ty t i0 hT hi b 0 n cap x m us hs hr
        (fun j hj => by rw [hz1, Nat.zero_add, hrow.cell, ← hv.1]; simp [List.getElem?_append_right]; omega) (fun j hj => hrow.free _)
      rw [hz1, Nat.zero_add, ← hv.1] at hroom
      obtain ⟨f1, f2⟩ := flat_setCells b t us vs.length w (vs ++ rest) hrow (by simp; omega)
      refine ⟨_, _, hroom, ⟨by rw [List.length_append, hv.1, hus, Nat.add_mul], .inr ⟨b, cap, rest.drop us.length, rfl, hr, ?_, ?_⟩⟩, f2.mono (fun k _ hk => ⟨n, cap, by rw [hk]⟩), .inl (fun b' ⟨n', c', h⟩ => by cases h; exact ⟨n, cap, rfl⟩), by simp⟩
      · rw [List.length_drop, hrest, hus, ← Nat.sub_mul, Nat.sub_sub]
      · rw [List.take_append_of_le_length (Nat.le_refl _), List.take_length, List.drop_append, List.drop_of_length_le (Nat.le_add_right _ _), List.nil_append, Nat.add_sub_cancel_left] at f1
        exact f1
    · have hold : (Builtin.firstCells i0.size n (.slice (some ⟨b, 0, none⟩) n cap)).run Yba.prog w.drew = .ok vs.toArray w.drew := by
        refine run_firstCells_some w.drew i0.size n ⟨b, 0, none⟩ n cap vs (by rw [hz1, hv.1]) ?_
        intro j u hu
        rw [Addr.add_lit, Nat.zero_add]
        show w.cell? _ = _
        rw [hrow.cell, List.getElem?_append_left (List.getElem?_eq_some_iff.1 hu).1, hu]
      obtain ⟨v', w', h1, h2, h3, h4⟩ := grow (some ⟨b, 0, none⟩) cap hold (by omega)
      exact ⟨v', w', h1, h2, h3.mono (fun _ _ h => h.elim), .inr h4, by obtain ⟨c, rfl⟩ := h4; simp⟩

/-- the run of an append, as a step of a region's walk. -/
theorem wpList_app {ops : Array Oper} {rest : List Oper} {o : Oper} {a : Act} {w : World} {Q : Exit → Act → World → Prop} (hgd : o.guard = none) (T : TypeId) (sl x : Operand)
    (ho : o.op = .call { callee := .builtin .append, args := #[sl, x], argTypes := #[T, T] }) {t : TypeId} {k y : Nat} {z : Value} (hT : Yba.prog.underlying T = some (.slice t)) (hinfo : (Yba.prog.info? t).map (fun i => (i.zero, i.size, i.bytes)) = some (some z, k, y))
    (hzk : z.cells.size = k) (hy : y ≤ 64) {v : Value} {n : Nat} {vs : List Value} (hsl : a.eval sl = v) {xv : Value} (hx : a.eval x = xv) (hv : Own w k t v n vs) {m : Nat} {us : List Value} (hs : Src Yba.prog k T xv m us w) (hm : 0 < m ∨ v ≠ .slice none 0 0) (hlim : n + m ≤ 4096)
    (h : ∀ v' w', Own w' k t v' (n + m) (vs ++ us) → Chg (InV v) w w' → ((∀ b, InV v' b → InV v b) ∨ ∃ c, v' = .slice (some ⟨w.heap.size, 0, none⟩) (n + m) c) → v' ≠ .slice none 0 0 → wpList Yba.prog ops Q rest (a.put o.dst v') w') : wpList Yba.prog ops Q (o :: rest) a w := by
  refine wpList_plain hgd fun K hK => ?_
  obtain ⟨v', w', hrun, h1, h2, h3, h4⟩ := run_app w (ty := o.type) hT hinfo hzk hy hv hs hm hlim
  have h' := h v' w' h1 h2 h3 h4
  unfold Oper.wp
  simp [execOp, ho, resolve, invoke, builtin, hsl, hx, hrun, Result.andThen]
  exact hK _ _ h'
end Go.Proofs.Ybulkboha
