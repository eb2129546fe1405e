import Derived.Test.YbulkbohaRoom
namespace Go.Proofs.Ybulkboha
open Go.RowKit
set_option linter.unusedVariables false
set_option linter.unusedSimpArgs false

/-- the spare page lock, if there is one. -/
def Pool (w0 : Nat) (sb hb mb N0 : Nat) (fr v15 : Value) (po : Bool) (wx : World) : Prop :=
  (po = false ∧ fr = nilV ∧ v15 = .pointer none) ∨
  (po = true ∧ ∃ fb sp, fr = .slice (some ⟨fb, 0, none⟩) 1 1 ∧ v15 = .pointer (some ⟨sp, 0, none⟩) ∧ wx.heap[fb]? = some (.cells #[.pointer (some ⟨sp, 0, none⟩)] 69 (0, 0)) ∧ wx.heap[sp]? = some (.cells #[nilV, nilV] 72 (0, 0)) ∧
    fb ≠ sb ∧ fb ≠ hb ∧ fb ≠ mb ∧ sp ≠ fb ∧ sp ≠ sb ∧ sp ≠ hb ∧ sp ≠ mb ∧ fb < N0 ∧ sp < N0 ∧ w0 < fb ∧ w0 < sp)
/-- the law's ground: site, host, map, the request's box. -/
structure Bas (w : World) (rq : Req) (sb hb mb N0 : Nat) (fr v15 : Value) (po : Bool) (wx : World) : Prop where
  bel : Below w.heap.size w wx
  siz : N0 ≤ wx.heap.size
  site : Site wx sb hb mb fr 0 (.pointer none) 0 0 0 0 0 0
  map : wx.heap[mb]? = some (.map #[] 0)
  box : wx.heap[w.heap.size]? = some (.cells (reqArr rq) 45 (0, 0))
  lo : w.heap.size < hb ∧ w.heap.size < sb ∧ w.heap.size < mb ∧ mb ≠ hb ∧ mb ≠ sb
  hi : hb < N0 ∧ sb < N0 ∧ mb < N0 ∧ w.heap.size < N0
  pool : Pool w.heap.size sb hb mb N0 fr v15 po wx

theorem belowBlock {N : Nat} {W W' : World} {b : Nat} {o : Obj} (k : Below N W W') (hb : b < N) (h : W.heap[b]? = some o) : W'.heap[b]? = some o := by rw [k.block b hb, h]
theorem Pool.on {w0 sb hb mb N0 : Nat} {fr v15 : Value} {po : Bool} {wx W : World} (h : Pool w0 sb hb mb N0 fr v15 po wx) (k : Below N0 wx W) : Pool w0 sb hb mb N0 fr v15 po W := by
  rcases h with h | ⟨h, fb, sp, h1, h2, h3, h4, h5, h6, h7, h8, h9, h10, h11, h12, h13, h14, h15⟩
  · exact .inl h
  · exact .inr ⟨h, fb, sp, h1, h2, belowBlock k h12 h3, belowBlock k h13 h4, h5, h6, h7, h8, h9, h10, h11, h12, h13, h14, h15⟩
theorem Bas.on {w : World} {rq : Req} {sb hb mb N0 : Nat} {fr v15 : Value} {po : Bool} {wx W : World} (h : Bas w rq sb hb mb N0 fr v15 po wx) (k : Below N0 wx W) : Bas w rq sb hb mb N0 fr v15 po W := by
  have hi := h.hi
  refine ⟨⟨k.os.trans h.bel.os, k.tape.trans h.bel.tape, k.output.trans h.bel.output, Nat.le_trans h.bel.size k.size, fun i hi' => (k.block i (by omega)).trans (h.bel.block i hi')⟩, Nat.le_trans h.siz k.size, ⟨belowBlock k hi.2.1 h.site.site, belowBlock k hi.1 h.site.host⟩, belowBlock k hi.2.2.1 h.map, belowBlock k hi.2.2.2 h.box, h.lo, hi, h.pool.on k⟩

def phc (es : List Ent) : List Value := es.map (fun e => .int .u8 e.ph)
/-- the cohorts that a loop has made, and the slice of their requests. -/
structure Mk (N0 H cap sb k : Nat) (es : List Ent) (w0 wr : World) : Prop where
  bel : Below N0 w0 wr
  len : es.length = k
  hol : OwnC wr 2 79 H k cap (lc es)
  mem : ∀ e ∈ es, Memb wr sb e e.ph 0 false nilV nilV
  far : Far es
  low : ∀ e ∈ es, H + 4 ≤ e.c

theorem Mk.below {N0 H cap sb k : Nat} {es : List Ent} {w0 wr w' : World} (h : Mk N0 H cap sb k es w0 wr) (hN : N0 ≤ wr.heap.size) (b : Below wr.heap.size wr w') : Mk N0 H cap sb k es w0 w' :=
  ⟨⟨b.os.trans h.bel.os, b.tape.trans h.bel.tape, b.output.trans h.bel.output, Nat.le_trans h.bel.size b.size, fun i hi => (b.block i (by omega)).trans (h.bel.block i hi)⟩, h.len, h.hol.below b, fun e he => (h.mem e he).below b, h.far, h.low⟩

theorem Far.snoc {es : List Ent} {e : Ent} (h : Far es) (h2 : ∀ x ∈ es, x.c + 2 < e.c) : Far (es ++ [e]) := by
  refine List.pairwise_append.2 ⟨h, by simp, ?_⟩
  intro a ha b hb
  rw [List.mem_singleton.1 hb]
  exact h2 a ha

theorem Mk.snoc {N0 H cap sb k : Nat} {es : List Ent} {e : Ent} {w0 wr W3 W4 : World} (h : Mk N0 H cap sb k es w0 wr) (hH : N0 ≤ H) (hHl : H + 1 ≤ wr.heap.size) (b3 : Below wr.heap.size wr W3) (hM : Memb W3 sb e e.ph 0 false nilV nilV) (hc : wr.heap.size + 2 < e.c)
    (hol : OwnC W4 2 79 H (k + 1) cap (lc es ++ [.pointer (some ⟨e.c, 0, none⟩), .int .u8 e.m])) (c4 : Chg (· = H) W3 W4) : Mk N0 H cap sb (k + 1) (es ++ [e]) w0 W4 := by
  have h3 := h.below (by omega) b3
  have hlow := hM.low
  refine ⟨?_, by simp [h.len], by rw [lc_append]; exact hol, ?_, h.far.snoc ?_, ?_⟩
  · have k := h3.bel
    exact ⟨c4.os.trans k.os, c4.tape.trans k.tape, c4.output.trans k.output, Nat.le_trans k.size c4.size, fun i hi => (c4.block i (by have := b3.size; omega) (by omega)).trans (k.block i hi)⟩
  · intro x hx
    rcases List.mem_append.1 hx with hx | hx
    · have := h.low x hx
      have := (h3.mem x hx).low
      exact (h3.mem x hx).chg c4 (by omega) (by omega) (by omega)
    · rw [List.mem_singleton.1 hx]
      exact hM.chg c4 (by omega) (by omega) (by omega)
  · intro x hx
    have := (h.mem x hx).lt
    omega
  · intro x hx
    rcases List.mem_append.1 hx with hx | hx
    · exact h.low x hx
    · rw [List.mem_singleton.1 hx]; omega

def host0 : Array Value := #[.int .i64 0, .pointer none, .int .i64 0, .int .i64 0, .int .i64 0, .int .i64 0, .int .i64 0, .int .i64 0]
theorem alloc_old {W : World} {A o : Obj} {b : Nat} (h : W.heap[b]? = some o) : (W.alloc A).heap[b]? = some o := by
  rw [Below.heap_alloc _ _ _ (Array.getElem?_eq_some_iff.1 h).1]; exact h
theorem ground {w w1 : World} {rq : Req} (hb1 : Below (w.heap.size + 2) ((w.alloc (.cells (reqArr rq) 45)).alloc (.cells host0 49)) w1) (hs1 : w1.heap.size = w.heap.size + 4) (hm1 : w1.heap[w.heap.size + 3]? = some (.map #[] 0)) (S : Obj) :
    Below w.heap.size w (w1.alloc S) ∧ (w1.alloc S).heap[w.heap.size]? = some (.cells (reqArr rq) 45 (0, 0)) ∧ (w1.alloc S).heap[w.heap.size + 1]? = some (.cells host0 49 (0, 0)) ∧ (w1.alloc S).heap[w.heap.size + 3]? = some (.map #[] 0) ∧ (w1.alloc S).heap[w.heap.size + 4]? = some S ∧ (w1.alloc S).heap.size = w.heap.size + 5 := by
  have h0 : ((w.alloc (.cells (reqArr rq) 45)).alloc (.cells host0 49)).heap[w.heap.size]? = some (.cells (reqArr rq) 45 (0, 0)) := by
    rw [Below.heap_alloc _ _ _ (by simp)]; exact heap_alloc_new _ _
  have h1 : ((w.alloc (.cells (reqArr rq) 45)).alloc (.cells host0 49)).heap[w.heap.size + 1]? = some (.cells host0 49 (0, 0)) := by
    have := heap_alloc_new (w.alloc (.cells (reqArr rq) 45)) (.cells host0 49)
    rwa [show (w.alloc (.cells (reqArr rq) 45)).heap.size = w.heap.size + 1 by simp] at this
  refine ⟨?_, alloc_old (belowBlock hb1 (by omega) h0), alloc_old (belowBlock hb1 (by omega) h1), alloc_old hm1, ?_, by simp [hs1]⟩
  · have hA : Below w.heap.size w ((w.alloc (.cells (reqArr rq) 45)).alloc (.cells host0 49)) := ((Below.refl _ _).alloc (Nat.le_refl _) _).alloc (by simp) _
    have hB : Below w.heap.size w w1 := ⟨hb1.os.trans hA.os, hb1.tape.trans hA.tape, hb1.output.trans hA.output, Nat.le_trans hA.size hb1.size, fun i hi => (hb1.block i (by omega)).trans (hA.block i hi)⟩
    exact hB.alloc (by omega) S
  · rw [← hs1]; exact heap_alloc_new _ _
theorem bas_plain {w w1 : World} {rq : Req} (hb1 : Below (w.heap.size + 2) ((w.alloc (.cells (reqArr rq) 45)).alloc (.cells host0 49)) w1) (hs1 : w1.heap.size = w.heap.size + 4) (hm1 : w1.heap[w.heap.size + 3]? = some (.map #[] 0)) :
    Bas w rq (w.heap.size + 4) (w.heap.size + 1) (w.heap.size + 3) (w.heap.size + 5) nilV (.pointer none) false (w1.alloc (.cells (siteArr (w.heap.size + 1) (w.heap.size + 3) nilV) 68)) := by
  obtain ⟨g1, g2, g3, g4, g5, g6⟩ := ground hb1 hs1 hm1 (.cells (siteArr (w.heap.size + 1) (w.heap.size + 3) nilV) 68)
  exact ⟨g1, by omega, ⟨g5, g3⟩, g4, g2, by omega, by omega, .inl ⟨rfl, rfl, rfl⟩⟩
theorem bas_pool {w w1 : World} {rq : Req} (hb1 : Below (w.heap.size + 2) ((w.alloc (.cells (reqArr rq) 45)).alloc (.cells host0 49)) w1) (hs1 : w1.heap.size = w.heap.size + 4) (hm1 : w1.heap[w.heap.size + 3]? = some (.map #[] 0)) :
    Bas w rq (w.heap.size + 4) (w.heap.size + 1) (w.heap.size + 3) (w.heap.size + 7) (.slice (some ⟨w.heap.size + 6, 0, none⟩) 1 1) (.pointer (some ⟨w.heap.size + 5, 0, none⟩)) true
      (((w1.alloc (.cells (siteArr (w.heap.size + 1) (w.heap.size + 3) (.slice (some ⟨w.heap.size + 6, 0, none⟩) 1 1)) 68)).alloc (.cells #[nilV, nilV] 72)).alloc (.cells #[.pointer (some ⟨w.heap.size + 5, 0, none⟩)] 69)) := by
  obtain ⟨g1, g2, g3, g4, g5, g6⟩ := ground hb1 hs1 hm1 (.cells (siteArr (w.heap.size + 1) (w.heap.size + 3) (.slice (some ⟨w.heap.size + 6, 0, none⟩) 1 1)) 68)
  generalize w1.alloc (.cells (siteArr (w.heap.size + 1) (w.heap.size + 3) (.slice (some ⟨w.heap.size + 6, 0, none⟩) 1 1)) 68) = W at *
  have e1 : (W.alloc (.cells #[nilV, nilV] 72)).heap.size = w.heap.size + 6 := by simp [g6]
  have n1 := heap_alloc_new W (.cells #[nilV, nilV] 72)
  have n2 := heap_alloc_new (W.alloc (.cells #[nilV, nilV] 72)) (.cells #[.pointer (some ⟨w.heap.size + 5, 0, none⟩)] 69)
  rw [g6] at n1
  rw [e1] at n2
  refine ⟨(g1.alloc (by omega) _).alloc (by omega) _, by simp [e1], ⟨alloc_old (alloc_old g5), alloc_old (alloc_old g3)⟩, alloc_old (alloc_old g4), alloc_old (alloc_old g2), by omega, by omega, .inr ⟨rfl, w.heap.size + 6, w.heap.size + 5, rfl, rfl, n2, alloc_old n1, ?_⟩⟩
  omega
end Go.Proofs.Ybulkboha
