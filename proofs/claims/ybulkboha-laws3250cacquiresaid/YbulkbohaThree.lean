import Derived.Test.YbulkbohaMake
namespace Go.Proofs.Ybulkboha
open Go.RowKit
set_option linter.unusedVariables false
set_option linter.unusedSimpArgs false

theorem OwnC.cells {w : World} {b n cap kk : Nat} {es : List Ent} {e : Ent} (h : OwnC w 2 79 b n cap (lc es)) (he : es[kk]? = some e) : w.cell? ⟨b, kk * 2, none⟩ = some (.pointer (some ⟨e.c, 0, none⟩)) ∧ w.cell? ⟨b, kk * 2 + 1, none⟩ = some (.int .u8 e.m) := by
  obtain ⟨h1, h2, rest, h3, h4⟩ := h
  obtain ⟨g0, g1⟩ := lc_get es kk e he
  have hlt : kk < es.length := (List.getElem?_eq_some_iff.1 he).1
  constructor
  · rw [h4.cell, List.getElem?_append_left (by rw [lc_length]; omega), g0]
  · rw [h4.cell, List.getElem?_append_left (by rw [lc_length]; omega), g1]
theorem OwnC.ph {w : World} {b n cap kk : Nat} {es : List Ent} {e : Ent} (h : OwnC w 1 80 b n cap (phc es)) (he : es[kk]? = some e) : w.cell? ⟨b, kk, none⟩ = some (.int .u8 e.ph) := by
  obtain ⟨h1, h2, rest, h3, h4⟩ := h
  have hlt : kk < es.length := (List.getElem?_eq_some_iff.1 he).1
  rw [h4.cell, List.getElem?_append_left (by rw [phc_length]; omega)]
  simp [phc, he]
/-- what the law's own loop over the holders has found. -/
structure L3 (W8 : World) (r : Ent) (es : List Ent) (kk : Nat) (any ok : Bool) (vs ls : List Ent) (vv lv pv : Value) (wr : World) : Prop where
  bel : Below W8.heap.size W8 wr
  vict : Cohs wr vv vs
  lend : Cohs wr lv ls
  phs : Own wr 1 80 pv vs.length (phc vs)
  newV : ∀ b, InV vv b → W8.heap.size ≤ b ∧ ¬ InV lv b ∧ ¬ InV pv b
  newL : ∀ b, InV lv b → W8.heap.size ≤ b ∧ ¬ InV pv b
  newP : ∀ b, InV pv b → W8.heap.size ≤ b
  anyE : any = anyC r (es.take kk)
  okT : ok = true → tk r (es.drop kk) vs ls = tk r es [] []
  okF : ok = false → tk r es [] [] = none
  lv : vs.length ≤ kk ∧ ls.length ≤ kk

theorem L3.start (W8 : World) (r : Ent) (es : List Ent) : L3 W8 r es 0 false true [] [] nilV nilV nilV W8 :=
  ⟨Below.refl _ _, Cohs.nil _, Cohs.nil _, ⟨rfl, .inl ⟨rfl, rfl⟩⟩, fun b h => absurd h not_inNil, fun b h => absurd h not_inNil, fun b h => absurd h not_inNil, rfl, fun _ => rfl, by simp, by simp⟩
theorem L3.below {W8 : World} {r : Ent} {es : List Ent} {kk : Nat} {any ok : Bool} {vs ls : List Ent} {vv lv pv : Value} {wr w' : World} (h : L3 W8 r es kk any ok vs ls vv lv pv wr) (b : Below wr.heap.size wr w') : L3 W8 r es kk any ok vs ls vv lv pv w' :=
  ⟨h.bel.next b, h.vict.below b, h.lend.below b, Own.chg h.phs (Chg.of_below (S := fun _ => False) b) (fun _ _ h => h), h.newV, h.newL, h.newP, h.anyE, h.okT, h.okF, h.lv⟩
theorem anyC_take {r : Ent} {es : List Ent} {kk : Nat} {e : Ent} (he : es[kk]? = some e) : anyC r (es.take (kk + 1)) = (anyC r (es.take kk) || (r.m == 2 || e.m == 2)) := by
  unfold anyC
  rw [List.take_add_one, he, List.any_append]
  simp
theorem drop_cons {es : List Ent} {kk : Nat} {e : Ent} (he : es[kk]? = some e) : es.drop kk = e :: es.drop (kk + 1) := by
  rw [List.drop_eq_getElem_cons (List.getElem?_eq_some_iff.1 he).1, (List.getElem?_eq_some_iff.1 he).2]
theorem L3.skip {W8 : World} {r : Ent} {es : List Ent} {kk : Nat} {any ok : Bool} {vs ls : List Ent} {vv lv pv : Value} {wr : World} {e : Ent} (h : L3 W8 r es kk any ok vs ls vv lv pv wr) (he : es[kk]? = some e) (hr : r.m ≠ 2) (hm : e.m ≠ 2) : L3 W8 r es (kk + 1) any ok vs ls vv lv pv wr := by
  refine ⟨h.bel, h.vict, h.lend, h.phs, h.newV, h.newL, h.newP, ?_, fun ho => ?_, h.okF, by have := h.lv; omega⟩
  · rw [anyC_take he, ← h.anyE]; simp [hr, hm]
  · rw [← h.okT ho, drop_cons he, tk_skip (by simp [hr, hm])]
theorem L3.after {W8 : World} {r : Ent} {es : List Ent} {kk : Nat} {any : Bool} {vs ls : List Ent} {vv lv pv : Value} {wr : World} {e : Ent} (h : L3 W8 r es kk any false vs ls vv lv pv wr) (he : es[kk]? = some e) (hc : (e.m == 2 || r.m == 2) = true) : L3 W8 r es (kk + 1) true false vs ls vv lv pv wr := by
  refine ⟨h.bel, h.vict, h.lend, h.phs, h.newV, h.newL, h.newP, ?_, (fun ho => by cases ho), h.okF, by have := h.lv; omega⟩
  rw [anyC_take he, Bool.or_comm (r.m == 2), hc]; simp
theorem L3.stop {W8 : World} {r : Ent} {es : List Ent} {kk : Nat} {any : Bool} {vs ls : List Ent} {vv lv pv : Value} {wr : World} {e : Ent} (h : L3 W8 r es kk any true vs ls vv lv pv wr) (he : es[kk]? = some e) (hc : (e.m == 2 || r.m == 2) = true) (h2 : lendsP e.ph e.lend = false) (h3 : (rank r.p e.p && abortP e.ph) = false) : L3 W8 r es (kk + 1) true false vs ls vv lv pv wr := by
  refine ⟨h.bel, h.vict, h.lend, h.phs, h.newV, h.newL, h.newP, ?_, (fun ho => by cases ho), fun _ => ?_, by have := h.lv; omega⟩
  · rw [anyC_take he, Bool.or_comm (r.m == 2), hc]; simp
  · rw [← h.okT rfl, drop_cons he, tk_stop hc h2 h3]

theorem inNew {v v' : Value} {W1 : World} {n c0 : Nat} (n5 : (∀ b, InV v' b → InV v b) ∨ ∃ c, v' = .slice (some ⟨W1.heap.size, 0, none⟩) n c) {b : Nat} (hb : InV v' b) : InV v b ∨ b = W1.heap.size := by
  rcases n5 with h | ⟨c, h⟩
  · exact .inl (h b hb)
  · obtain ⟨n', c', h'⟩ := hb
    rw [h] at h'
    cases h'
    exact .inr rfl

theorem L3.addL {W8 : World} {r : Ent} {es : List Ent} {kk : Nat} {any : Bool} {vs ls : List Ent} {vv lv pv : Value} {wr W1 w5 : World} {e : Ent} {v' : Value} (h0 : L3 W8 r es kk any true vs ls vv lv pv wr) (b : Below wr.heap.size wr W1) (he : es[kk]? = some e) (hc : (e.m == 2 || r.m == 2) = true) (h2 : lendsP e.ph e.lend = true)
    (o : Own w5 1 74 v' (ls.length + 1) (pc ls ++ [.pointer (some ⟨e.c, 0, none⟩)])) (c : Chg (InV lv) W1 w5) (n5 : (∀ b, InV v' b → InV lv b) ∨ ∃ cc, v' = .slice (some ⟨W1.heap.size, 0, none⟩) (ls.length + 1) cc) : L3 W8 r es (kk + 1) true true vs (ls ++ [e]) vv v' pv w5 := by
  have h := h0.below b
  have hsz := h.bel.size
  refine ⟨?_, h.vict.chg c (fun b hb hl => (h.newV b hb).2.1 hl), ?_, Own.chg h.phs c (fun b hb hl => (h.newL b hl).2 hb), ?_, ?_, h.newP, ?_, fun _ => ?_, (fun ho => by cases ho), by have := h.lv; simp; omega⟩
  · exact ⟨c.os.trans h.bel.os, c.tape.trans h.bel.tape, c.output.trans h.bel.output, Nat.le_trans hsz c.size, fun q hq => (c.block q (by omega) (fun hi => by have := (h.newL _ hi).1; omega)).trans (h.bel.block q hq)⟩
  · show Own w5 1 74 v' (ls ++ [e]).length (pc (ls ++ [e]))
    rw [List.length_append, pc_append]; exact o
  · intro b hb
    refine ⟨(h.newV b hb).1, fun hi => ?_, (h.newV b hb).2.2⟩
    rcases inNew (c0 := 0) n5 hi with h9 | h9
    · exact (h.newV b hb).2.1 h9
    · have := Own.lt h.vict hb; omega
  · intro b hb
    rcases inNew (c0 := 0) n5 hb with h9 | h9
    · exact h.newL b h9
    · exact ⟨by omega, fun hi => by have := Own.lt h.phs hi; omega⟩
  · rw [anyC_take he, Bool.or_comm (r.m == 2), hc]; simp
  · rw [← h.okT rfl, drop_cons he, tk_lend hc h2]
theorem L3.addV {W8 : World} {r : Ent} {es : List Ent} {kk : Nat} {any : Bool} {vs ls : List Ent} {vv lv pv : Value} {wr W1 w5 W6 w7 : World} {e : Ent} {v' p' : Value} (h0 : L3 W8 r es kk any true vs ls vv lv pv wr) (b : Below wr.heap.size wr W1) (he : es[kk]? = some e) (hc : (e.m == 2 || r.m == 2) = true) (h2 : lendsP e.ph e.lend = false) (h3 : rank r.p e.p = true) (h4 : abortP e.ph = true)
    (o : Own w5 1 74 v' (vs.length + 1) (pc vs ++ [.pointer (some ⟨e.c, 0, none⟩)])) (c : Chg (InV vv) W1 w5) (n5 : (∀ b, InV v' b → InV vv b) ∨ ∃ cc, v' = .slice (some ⟨W1.heap.size, 0, none⟩) (vs.length + 1) cc)
    (b6 : Below w5.heap.size w5 W6) (o7 : Own w7 1 80 p' (vs.length + 1) (phc vs ++ [.int .u8 e.ph])) (c7 : Chg (InV pv) W6 w7) (n7 : (∀ b, InV p' b → InV pv b) ∨ ∃ cc, p' = .slice (some ⟨W6.heap.size, 0, none⟩) (vs.length + 1) cc) : L3 W8 r es (kk + 1) true true (vs ++ [e]) ls v' lv p' w7 := by
  have h := h0.below b
  have hsz := h.bel.size
  have hs5 := c.size
  have hs6 := b6.size
  have hvin : ∀ b, InV v' b → W8.heap.size ≤ b ∧ ¬ InV lv b ∧ ¬ InV pv b ∧ b < w5.heap.size := by
    intro b hb
    have hlt := Own.lt o hb
    rcases inNew (c0 := 0) n5 hb with h9 | h9
    · have := h.newV b h9
      exact ⟨this.1, this.2.1, this.2.2, hlt⟩
    · exact ⟨by omega, fun hi => by have := Own.lt h.lend hi; omega, fun hi => by have := Own.lt h.phs hi; omega, hlt⟩
  have o6 : Cohs w5 v' (vs ++ [e]) := by
    show Own w5 1 74 v' (vs ++ [e]).length (pc (vs ++ [e]))
    rw [List.length_append, pc_append]; exact o
  have hl5 : Cohs w5 lv ls := h.lend.chg c (fun b hb hv => (h.newV b hv).2.1 hb)
  refine ⟨?_, (o6.below b6).chg c7 (fun b hb hp => (hvin b hb).2.2.1 hp), (hl5.below b6).chg c7 (fun b hb hp => (h.newL b hb).2 hp), ?_, ?_, ?_, ?_, ?_, fun _ => ?_, (fun ho => by cases ho), by have := h.lv; simp; omega⟩
  · have hb5 : Below W8.heap.size W8 w5 := ⟨c.os.trans h.bel.os, c.tape.trans h.bel.tape, c.output.trans h.bel.output, Nat.le_trans hsz c.size, fun q hq => (c.block q (by omega) (fun hi => by have := (h.newV _ hi).1; omega)).trans (h.bel.block q hq)⟩
    have hb6 := hb5.next b6
    exact ⟨c7.os.trans hb6.os, c7.tape.trans hb6.tape, c7.output.trans hb6.output, Nat.le_trans hb6.size c7.size, fun q hq => (c7.block q (by omega) (fun hi => by have := h.newP _ hi; omega)).trans (hb6.block q hq)⟩
  · rw [List.length_append, phc_snoc]; exact o7
  · intro b hb
    have hv := hvin b hb
    refine ⟨hv.1, hv.2.1, fun hi => ?_⟩
    rcases inNew (c0 := 0) n7 hi with h9 | h9
    · exact hv.2.2.1 h9
    · omega
  · intro b hb
    refine ⟨(h.newL b hb).1, fun hi => ?_⟩
    rcases inNew (c0 := 0) n7 hi with h9 | h9
    · exact (h.newL b hb).2 h9
    · have := Own.lt h.lend hb; omega
  · intro b hb
    rcases inNew (c0 := 0) n7 hb with h9 | h9
    · exact h.newP b h9
    · omega
  · rw [anyC_take he, Bool.or_comm (r.m == 2), hc]; simp
  · rw [← h.okT rfl, drop_cons he, tk_vict hc h2 h3 h4]
end Go.Proofs.Ybulkboha
