import Derived.Test.YbulkbohaFin
namespace Go.Proofs.Ybulkboha
open Go.RowKit
set_option linter.unusedVariables false
set_option linter.unusedSimpArgs false

/-- what the law reads behind a grant. -/
structure AfG (sb hb mb pb N2 N3 R k j : Nat) (fr' qv hv1 lv' vv lv pv : Value) (any : Bool) (es qs vs ls : List Ent) (r : Ent) (W : World) : Prop where
  pl : W.heap[pb]? = some (.cells #[hv1, qv] 72 (0, 0))
  hol : Reqs W hv1 (es.filter (fun x => !has vs x.c) ++ [r])
  que : Reqs W qv qs
  site : Site W sb hb mb fr' (cfOf any) (ctOf any r) 1 0 (boOf ls) (told vs) (told vs) 0
  coh : Memb W sb r r.ph 1 false lv' nilV
  lend : Cohs W lv' ls
  loan : ∀ y ∈ ls, ∃ lo, W.cell? ⟨y.c, 12, none⟩ = some lo ∧ Cohs W lo [r]
  vict : ∀ y ∈ vs, W.cell? ⟨y.c, 3, none⟩ = some (.int .u8 (deadPh y.ph))
  isC : ∀ x ∈ es, IsC W x.c
  pe : OwnC W 2 79 N2 k k (lc es)
  pq : OwnC W 2 79 N3 j j (lc qs)
  box : W.heap[R]? = some (.cells #[.pointer (some ⟨r.c, 0, none⟩), .int .u8 r.m] 79 (0, 0))
  cv : Cohs W vv vs
  cl : Cohs W lv ls
  ph : Own W 1 80 pv vs.length (phc vs)
  vx : vs.Sublist es
  lx : ls.Sublist es
  len : es.length = k ∧ qs.length = j ∧ k ≤ 1024 ∧ j ≤ 1024

theorem AfG.below {sb hb mb pb N2 N3 R k j : Nat} {fr' qv hv1 lv' vv lv pv : Value} {any : Bool} {es qs vs ls : List Ent} {r : Ent} {W W' : World} (h : AfG sb hb mb pb N2 N3 R k j fr' qv hv1 lv' vv lv pv any es qs vs ls r W) (b : Below W.heap.size W W') : AfG sb hb mb pb N2 N3 R k j fr' qv hv1 lv' vv lv pv any es qs vs ls r W' := by
  have c := Chg.of_below (S := fun _ => False) b
  refine ⟨c.heap h.pl (fun h => h), h.hol.below b, h.que.below b, h.site.below b, h.coh.below b, h.lend.below b, fun y hy => ?_, fun y hy => b.keep (h.vict y hy), fun x hx => (h.isC x hx).below b, h.pe.below b, h.pq.below b, c.heap h.box (fun h => h), h.cv.below b, h.cl.below b, Own.chg h.ph c (fun _ _ h => h), h.vx, h.lx, h.len⟩
  obtain ⟨lo, h1, h2⟩ := h.loan y hy
  exact ⟨lo, b.keep h1, h2.below b⟩

/-- the loop that gathers the holders that are wanted. -/
structure L4 (M cap kk : Nat) (es vs : List Ent) (n : Nat) (V wr : World) : Prop where
  bel : Below M V wr
  siz : M < wr.heap.size
  own : OwnC wr 2 79 M n cap (lc ((es.take kk).filter (fun x => !has vs x.c)))
  le : n ≤ kk

theorem L4.below {M cap kk n : Nat} {es vs : List Ent} {V wr w' : World} (h : L4 M cap kk es vs n V wr) (b : Below wr.heap.size wr w') : L4 M cap kk es vs n V w' :=
  ⟨⟨b.os.trans h.bel.os, b.tape.trans h.bel.tape, b.output.trans h.bel.output, Nat.le_trans h.bel.size b.size, fun i hi => (b.block i (by have := h.siz; omega)).trans (h.bel.block i hi)⟩, Nat.lt_of_lt_of_le h.siz b.size, h.own.below b, h.le⟩
theorem L4.skip {M cap kk n : Nat} {es vs : List Ent} {V wr : World} {e : Ent} (h : L4 M cap kk es vs n V wr) (he : es[kk]? = some e) (hh : has vs e.c = true) : L4 M cap (kk + 1) es vs n V wr := by
  refine ⟨h.bel, h.siz, ?_, by have := h.le; omega⟩
  rw [filter_take he]
  simpa [hh] using h.own
theorem L4.add {M cap kk n : Nat} {es vs : List Ent} {V wr W1 w5 : World} {e : Ent} (h : L4 M cap kk es vs n V wr) (he : es[kk]? = some e) (hh : has vs e.c = false) (b : Below wr.heap.size wr W1) (o : OwnC w5 2 79 M (n + 1) cap (lc ((es.take kk).filter (fun x => !has vs x.c)) ++ [.pointer (some ⟨e.c, 0, none⟩), .int .u8 e.m])) (c : Chg (· = M) W1 w5) : L4 M cap (kk + 1) es vs (n + 1) V w5 := by
  have h1 := h.below b
  refine ⟨⟨c.os.trans h1.bel.os, c.tape.trans h1.bel.tape, c.output.trans h1.bel.output, Nat.le_trans h1.bel.size c.size, fun i hi => (c.block i (by have := h1.siz; omega) (by omega)).trans (h1.bel.block i hi)⟩, Nat.lt_of_lt_of_le h1.siz c.size, ?_, by have := h.le; omega⟩
  rw [filter_take he, hh]
  simp only [Bool.not_false, if_true, lc_append]
  exact o

theorem own80_cell {w : World} {pv : Value} {vs : List Ent} (h : Own w 1 80 pv vs.length (phc vs)) {q : Nat} {y : Ent} (hy : vs[q]? = some y) : ∃ b cap, pv = .slice (some ⟨b, 0, none⟩) vs.length cap ∧ w.cell? ⟨b, q, none⟩ = some (.int .u8 y.ph) := by
  have hlt : q < vs.length := (List.getElem?_eq_some_iff.1 hy).1
  rcases h.2 with ⟨_, h0⟩ | ⟨b, cap, rest, rfl, h1, h2, h3⟩
  · omega
  · refine ⟨b, cap, rfl, ?_⟩
    rw [h3.cell, List.getElem?_append_left (by rw [phc_length]; omega)]
    simp [phc, hy]
/-- what the law reads behind a refusal. -/
structure AfR (sb hb mb pb N2 N3 R k j : Nat) (fr' hv qv1 : Value) (any : Bool) (es qs : List Ent) (r : Ent) (W : World) : Prop where
  pl : W.heap[pb]? = some (.cells #[hv, qv1] 72 (0, 0))
  hol : Reqs W hv es
  que : Reqs W qv1 (insAt qs (insI r qs) r)
  site : Site W sb hb mb fr' (cfOf any) (ctOf any r) 0 0 0 0 0 0
  coh : Memb W sb r r.ph 0 true nilV nilV
  mq : ∀ e ∈ qs, Coh W e
  pe : OwnC W 2 79 N2 k k (lc es)
  pq : OwnC W 2 79 N3 j j (lc qs)
  box : W.heap[R]? = some (.cells #[.pointer (some ⟨r.c, 0, none⟩), .int .u8 r.m] 79 (0, 0))
  len : es.length = k ∧ qs.length = j ∧ k ≤ 1024 ∧ j ≤ 1024
theorem AfR.below {sb hb mb pb N2 N3 R k j : Nat} {fr' hv qv1 : Value} {any : Bool} {es qs : List Ent} {r : Ent} {W W' : World} (h : AfR sb hb mb pb N2 N3 R k j fr' hv qv1 any es qs r W) (b : Below W.heap.size W W') : AfR sb hb mb pb N2 N3 R k j fr' hv qv1 any es qs r W' := by
  have c := Chg.of_below (S := fun _ => False) b
  exact ⟨c.heap h.pl (fun h => h), h.hol.below b, h.que.below b, h.site.below b, h.coh.below b, fun e he => (h.mq e he).below b, h.pe.below b, h.pq.below b, c.heap h.box (fun h => h), h.len⟩

theorem wpList_roomN {ops : Array Oper} {rest : List Oper} {o : Oper} {a : Act} {w : World} {Q : Exit → Act → World → Prop} (hgd : o.guard = none) (T : TypeId) (sl x : Operand)
    (ho : o.op = .call { callee := .builtin .append, args := #[sl, x], argTypes := #[T, T] }) {t : TypeId} {k y : Nat} {z : Value} (hT : Yba.prog.underlying T = some (.slice t)) (hinfo : (Yba.prog.info? t).map (fun i => (i.zero, i.size, i.bytes)) = some (some z, k, y))
    {b n cap n' : Nat} {vs : List Value} (hsl : a.eval sl = .slice (some ⟨b, 0, none⟩) n cap) {xv : Value} (hx : a.eval x = xv) (hv : OwnC w k t b n cap vs) {m : Nat} {us : List Value} (hs : Src Yba.prog k T xv m us w) (hn : n + m = n') (hr : n' ≤ cap)
    (h : ∀ w', OwnC w' k t b n' cap (vs ++ us) → Chg (· = b) w w' → wpList Yba.prog ops Q rest (a.put o.dst (.slice (some ⟨b, 0, none⟩) n' cap)) w') : wpList Yba.prog ops Q (o :: rest) a w := by
  subst hn
  exact wpList_room hgd T sl x ho hT hinfo hsl hx hv hs hr h
theorem lc_part {W : World} {b n cap : Nat} {qs : List Ent} (h : OwnC W 2 79 b n cap (lc qs)) (o : Nat) {us : List Ent} {l : Nat} (hu : ∀ i v, (lc us)[i]? = some v → (lc qs)[o + i]? = some v) (hl : us.length = l) (c : Nat) : Src Yba.prog 2 70 (.slice (some ⟨b, o, none⟩) l c) l (lc us) W := by
  refine Src.ofSlice W Yba.underlying70 ⟨b, o, none⟩ l c (lc us) (by rw [lc_length, hl]) ?_ (lc_one us)
  obtain ⟨h1, h2, rest, h3, h4⟩ := h
  intro i v hv
  have h9 := hu i v hv
  rw [Addr.add_lit, h4.cell, List.getElem?_append_left (List.getElem?_eq_some_iff.1 h9).1, h9]
end Go.Proofs.Ybulkboha
