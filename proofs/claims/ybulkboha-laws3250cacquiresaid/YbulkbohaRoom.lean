import Derived.Test.YbulkbohaAcq
namespace Go.Proofs.Ybulkboha
open Go.RowKit
set_option linter.unusedVariables false
set_option linter.unusedSimpArgs false

/-- a slice with its capacity told. -/
def OwnC (w : World) (k : Nat) (t : TypeId) (b n cap : Nat) (vs : List Value) : Prop := vs.length = n * k ∧ n ≤ cap ∧ ∃ rest : List Value, rest.length = (cap - n) * k ∧ Flat w b t (vs ++ rest)
theorem OwnC.own {w : World} {k : Nat} {t : TypeId} {b n cap : Nat} {vs : List Value} (h : OwnC w k t b n cap vs) : Own w k t (.slice (some ⟨b, 0, none⟩) n cap) n vs := by
  obtain ⟨h1, h2, rest, h3, h4⟩ := h
  exact ⟨h1, .inr ⟨b, cap, rest, rfl, h2, h3, h4⟩⟩
theorem OwnC.lt {w : World} {k : Nat} {t : TypeId} {b n cap : Nat} {vs : List Value} (h : OwnC w k t b n cap vs) : b < w.heap.size := by
  obtain ⟨h1, h2, rest, h3, h4⟩ := h
  exact h4.lt
theorem OwnC.chg {S : Nat → Prop} {w w' : World} {k : Nat} {t : TypeId} {b n cap : Nat} {vs : List Value} (h : OwnC w k t b n cap vs) (c : Chg S w w') (hn : ¬ S b) : OwnC w' k t b n cap vs := by
  obtain ⟨h1, h2, rest, h3, h4⟩ := h
  exact ⟨h1, h2, rest, h3, h4.chg c hn⟩
theorem OwnC.below {w w' : World} {k : Nat} {t : TypeId} {b n cap : Nat} {vs : List Value} (h : OwnC w k t b n cap vs) (c : Below w.heap.size w w') : OwnC w' k t b n cap vs := h.chg (Chg.of_below (S := fun _ => False) c) (fun h => h)
/-- append where there is room. -/
theorem run_room (w : World) {T t ty : TypeId} {k y : Nat} {z : Value} (hT : Yba.prog.underlying T = some (.slice t)) (hinfo : (Yba.prog.info? t).map (fun i => (i.zero, i.size, i.bytes)) = some (some z, k, y)) {b n cap : Nat} {vs : List Value} (hv : OwnC w k t b n cap vs) {x : Value} {m : Nat} {us : List Value} (hs : Src Yba.prog k T x m us w) (hr : n + m ≤ cap) :
    (Builtin.append_ #[T, T] ty #[.slice (some ⟨b, 0, none⟩) n cap, x]).run Yba.prog w = .ok (.slice (some ⟨b, 0, none⟩) (n + m) cap) (w.setCells b vs.length us) ∧ OwnC (w.setCells b vs.length us) k t b (n + m) cap (vs ++ us) ∧ Chg (· = b) w (w.setCells b vs.length us) := by
  obtain ⟨i0, hi, hz0, hz1, hz2⟩ := info_parts hinfo
  have hus := hs.newsLen
  obtain ⟨h1, h2, rest, h3, hrow⟩ := hv
  rw [← hz1] at hs
  have hk : us.length ≤ rest.length := by rw [hus, h3]; exact Nat.mul_le_mul_right _ (by omega)
  have hroom := run_append_room_src (P := Yba.prog) w T T ty t i0 hT hi b 0 n cap x m us hs hr
    (fun j hj => by rw [hz1, Nat.zero_add, hrow.cell, ← h1]; simp [List.getElem?_append_right]; omega) (fun j hj => hrow.free _)
  rw [hz1, Nat.zero_add, ← h1] at hroom
  obtain ⟨f1, f2⟩ := flat_setCells b t us vs.length w (vs ++ rest) hrow (by simp; omega)
  rw [seg_put rfl] at f1
  refine ⟨hroom, ⟨by rw [List.length_append, h1, hus, Nat.add_mul], hr, rest.drop us.length, ?_, f1⟩, f2⟩
  rw [List.length_drop, h3, hus, ← Nat.sub_mul, Nat.sub_sub]
theorem wpList_room {ops : Array Oper} {rest : List Oper} {o : Oper} {a : Act} {w : World} {Q : Exit → Act → World → Prop} (hgd : o.guard = none) (T : TypeId) (sl x : Operand)
    (ho : o.op = .call { callee := .builtin .append, args := #[sl, x], argTypes := #[T, T] }) {t : TypeId} {k y : Nat} {z : Value} (hT : Yba.prog.underlying T = some (.slice t)) (hinfo : (Yba.prog.info? t).map (fun i => (i.zero, i.size, i.bytes)) = some (some z, k, y))
    {b n cap : Nat} {vs : List Value} (hsl : a.eval sl = .slice (some ⟨b, 0, none⟩) n cap) {xv : Value} (hx : a.eval x = xv) (hv : OwnC w k t b n cap vs) {m : Nat} {us : List Value} (hs : Src Yba.prog k T xv m us w) (hr : n + m ≤ cap)
    (h : ∀ w', OwnC w' k t b (n + m) cap (vs ++ us) → Chg (· = b) w w' → wpList Yba.prog ops Q rest (a.put o.dst (.slice (some ⟨b, 0, none⟩) (n + m) cap)) w') : wpList Yba.prog ops Q (o :: rest) a w := by
  refine wpList_plain hgd fun K hK => ?_
  obtain ⟨hrun, h1, h2⟩ := run_room w (ty := o.type) hT hinfo hv hs hr
  have h' := h _ h1 h2
  unfold Oper.wp
  simp [execOp, ho, resolve, invoke, builtin, hsl, hx, hrun, Result.andThen]
  exact hK _ _ h'
theorem step_room {ops : Array Oper} {o : Oper} {a : Act} {w : World} {K : Act → World → Prop} {Q : Exit → Act → World → Prop} {E : Prop} (hgd : o.guard = none) (T : TypeId) (sl x : Operand)
    (ho : o.op = .call { callee := .builtin .append, args := #[sl, x], argTypes := #[T, T] }) {t : TypeId} {k y : Nat} {z : Value} (hT : Yba.prog.underlying T = some (.slice t)) (hinfo : (Yba.prog.info? t).map (fun i => (i.zero, i.size, i.bytes)) = some (some z, k, y))
    {b n cap : Nat} {vs : List Value} (hsl : a.eval sl = .slice (some ⟨b, 0, none⟩) n cap) {xv : Value} (hx : a.eval x = xv) (hv : OwnC w k t b n cap vs) {m : Nat} {us : List Value} (hs : Src Yba.prog k T xv m us w) (hr : n + m ≤ cap)
    (h : ∀ w', OwnC w' k t b (n + m) cap (vs ++ us) → Chg (· = b) w w' → K (a.put o.dst (.slice (some ⟨b, 0, none⟩) (n + m) cap)) w') :
    if Region.wanted o (yielded ops a.tmps) = true then Oper.wp Yba.prog o a w K Q else E := by
  have hw : Region.wanted o (yielded ops a.tmps) = true := by simp [Region.wanted, hgd]
  rw [if_pos hw]
  obtain ⟨hrun, h1, h2⟩ := run_room w (ty := o.type) hT hinfo hv hs hr
  have h' := h _ h1 h2
  unfold Oper.wp
  simp [execOp, ho, resolve, invoke, builtin, hsl, hx, hrun, Result.andThen]
  exact h'

/-- a slice of drawn requests, as it came in. -/
def SrcR (w : World) (a0 : Option Addr) (rs : List Req) : Prop := rs = [] ∨ ∃ b off, a0 = some ⟨b, off, none⟩ ∧ ∀ k q, rs[k]? = some q → ∀ j v, (reqArr q)[j]? = some v → w.cell? ⟨b, off + k * 6 + j, none⟩ = some v
theorem SrcR.below {w w' : World} {a0 : Option Addr} {rs : List Req} (h : SrcR w a0 rs) (k : Below w.heap.size w w') : SrcR w' a0 rs := by
  rcases h with h | ⟨b, off, h1, h2⟩
  · exact .inl h
  · exact .inr ⟨b, off, h1, fun i q hq j v hv => k.keep (h2 i q hq j v hv)⟩

/-- the entry of the cohort that mk laid at block c. -/
def entOf (c : Nat) (q : Req) : Ent := ⟨c, if q.upd then 2 else 1, (wrap64 q.dl, wrap64 q.ar, wrap64 q.nu), q.ph.tmod 12, q.lend⟩
theorem mkW_memb (w : World) (sb : Nat) (q : Req) : Memb (mkW w sb q) sb (entOf (w.heap.size + 3) q) (q.ph.tmod 12) 0 false nilV nilV := by
  have h := mkW_made w sb q
  exact ⟨h.coh, h.txn.txn, h.txn.cohs, by show 3 ≤ w.heap.size + 3; omega⟩
end Go.Proofs.Ybulkboha
