import Derived.Test.YbulkbohaLaid
import Derived.Laws.MakeOwn
namespace Go.Proofs.Ybulkboha
open Go.RowKit
set_option linter.unusedVariables false
set_option linter.unusedSimpArgs false

def zR (n : Nat) : Array Value := madeCells #[.pointer none, .int .u8 0] (n * 2)
def zP (n : Nat) : Array Value := madeCells #[.int .u8 0] n
theorem zR_size (n : Nat) : (zR n).size = n * 2 := size_madeCells _ _
theorem zP_size (n : Nat) : (zP n).size = n := size_madeCells _ _
theorem make70 (w : World) (n : Nat) (hn : n ≤ 4096) :
    (Instr.makeSlice 70 (.int .i64 (n : Int)) (.int .i64 (n : Int))).run Yba.prog w = .ok (.slice (some ⟨w.heap.size, 0, none⟩) n n) (w.alloc (.cells (zR n) 79)) := by
  obtain ⟨i0, hi, hz0, hz1, hz2⟩ := info_parts Yba.info79
  have := run_make (P := Yba.prog) w 70 79 i0 _ Yba.underlying70 hi hz0 .i64 .i64 n n (by omega) (Int.le_refl _) (by rw [hz2]; omega) (by omega)
  rw [hz1] at this
  simpa [Value.cells, zR] using this
theorem make70_0 (w : World) (n : Nat) (hn : n ≤ 4096) :
    (Instr.makeSlice 70 (.int .i64 0) (.int .i64 (n : Int))).run Yba.prog w = .ok (.slice (some ⟨w.heap.size, 0, none⟩) 0 n) (w.alloc (.cells (zR n) 79)) := by
  obtain ⟨i0, hi, hz0, hz1, hz2⟩ := info_parts Yba.info79
  have := run_make (P := Yba.prog) w 70 79 i0 _ Yba.underlying70 hi hz0 .i64 .i64 0 n (by omega) (by omega) (by rw [hz2]; omega) (by omega)
  rw [hz1] at this
  simpa [Value.cells, zR] using this
theorem make73_0 (w : World) (n : Nat) (hn : n ≤ 4096) :
    (Instr.makeSlice 73 (.int .i64 0) (.int .i64 (n : Int))).run Yba.prog w = .ok (.slice (some ⟨w.heap.size, 0, none⟩) 0 n) (w.alloc (.cells (zP n) 80)) := by
  obtain ⟨i0, hi, hz0, hz1, hz2⟩ := info_parts Yba.info80
  have := run_make (P := Yba.prog) w 73 80 i0 _ Yba.underlying73 hi hz0 .i64 .i64 0 n (by omega) (by omega) (by rw [hz2]; omega) (by omega)
  rw [hz1] at this
  simpa [Value.cells, zP] using this
theorem flat_new (w : World) (A : Array Value) (t : TypeId) : Flat (w.alloc (.cells A t)) w.heap.size t A.toList := by
  unfold Flat
  rw [heap_alloc_new]
theorem own70 (w : World) (n : Nat) : OwnC (w.alloc (.cells (zR n) 79)) 2 79 w.heap.size 0 n [] := ⟨rfl, Nat.zero_le _, (zR n).toList, by rw [Array.length_toList, zR_size, Nat.sub_zero], flat_new _ _ _⟩
theorem own73 (w : World) (n : Nat) : OwnC (w.alloc (.cells (zP n) 80)) 1 80 w.heap.size 0 n [] := ⟨rfl, Nat.zero_le _, (zP n).toList, by rw [Array.length_toList, zP_size]; omega, flat_new _ _ _⟩
/-- the last element of a slice of one cell of type 73. -/
theorem one_src73 {w : World} {b : Nat} {v : Value} (h1 : v.oneCell' = true) (h : w.cell? ⟨b, 0, none⟩ = some v) : Src Yba.prog 1 73 (.slice (some ⟨b, 0, none⟩) 1 1) 1 [v] w := by
  refine Src.ofSlice w Yba.underlying73 ⟨b, 0, none⟩ 1 1 [v] rfl ?_ (by simpa using h1)
  intro j u hu
  rw [Addr.add_lit, Nat.zero_add]
  cases j with
  | zero => simp at hu; rw [h, hu]
  | succ j => simp at hu

theorem flat70 (W : World) (n : Nat) : Flat (W.alloc (.cells (zR n) 79)) W.heap.size 79 (zR n).toList := flat_new _ _ _
theorem zR_len (n : Nat) : (zR n).toList.length = n * 2 := by rw [Array.length_toList, zR_size]
theorem copy_new (W : World) (n : Nat) (us : List Value) (hl : us.length = n * 2) : OwnC ((W.alloc (.cells (zR n) 79)).setCells W.heap.size 0 us) 2 79 W.heap.size n n us ∧ Below W.heap.size W ((W.alloc (.cells (zR n) 79)).setCells W.heap.size 0 us) := by
  obtain ⟨f1, f2⟩ := flat_setCells W.heap.size 79 us 0 (W.alloc (.cells (zR n) 79)) (zR n).toList (flat70 W n) (by rw [zR_len]; omega)
  have hb : Below W.heap.size W (W.alloc (.cells (zR n) 79)) := (Below.refl _ _).alloc (Nat.le_refl _) _
  refine ⟨⟨hl, Nat.le_refl _, [], by simp, ?_⟩, hb.trans (f2.to_below (by simp) (fun k hk => by omega))⟩
  have hd : (zR n).toList.drop (0 + us.length) = [] := List.drop_of_length_le (by rw [zR_len]; omega)
  rw [List.take_zero, List.nil_append, hd] at f1
  exact f1
theorem OwnC.src {w : World} {b n cap : Nat} {vs : List Value} (h : OwnC w 2 79 b n cap vs) : ∀ j v, vs[j]? = some v → w.cell? ⟨b, 0 + j, none⟩ = some v := by
  obtain ⟨h1, h2, rest, h3, h4⟩ := h
  intro j v hv
  rw [Nat.zero_add, h4.cell, List.getElem?_append_left (List.getElem?_eq_some_iff.1 hv).1, hv]
def PresV (k j : Nat) (v : Value) : Prop := ∃ pr : Bool, v = .bool pr ∧ (pr = false → k = 0 ∧ j = 0)
/-- the ground without the map. -/
structure Bs (w : World) (rq : Req) (sb hb mb N0 : Nat) (fr v15 : Value) (po : Bool) (wx : World) : Prop where
  bel : Below w.heap.size w wx
  siz : N0 ≤ wx.heap.size
  site : Site wx sb hb mb fr 0 (.pointer none) 0 0 0 0 0 0
  box : wx.heap[w.heap.size]? = some (.cells (reqArr rq) 45 (0, 0))
  lo : w.heap.size < hb ∧ w.heap.size < sb ∧ w.heap.size < mb ∧ mb ≠ hb ∧ mb ≠ sb
  hi : hb < N0 ∧ sb < N0 ∧ mb < N0 ∧ w.heap.size < N0
  pool : Pool w.heap.size sb hb mb N0 fr v15 po wx
theorem Bas.bs {w : World} {rq : Req} {sb hb mb N0 : Nat} {fr v15 : Value} {po : Bool} {wx W : World} (h : Bas w rq sb hb mb N0 fr v15 po wx) (c : Chg (· = mb) wx W) : Bs w rq sb hb mb N0 fr v15 po W := by
  have hi := h.hi
  have lo := h.lo
  have sz := h.siz
  refine ⟨⟨c.os.trans h.bel.os, c.tape.trans h.bel.tape, c.output.trans h.bel.output, Nat.le_trans h.bel.size c.size, fun i hi' => (c.block i (by have := h.bel.size; omega) (by omega)).trans (h.bel.block i hi')⟩, Nat.le_trans sz c.size, h.site.chg c (by omega) (by omega), c.heap h.box (by omega), lo, hi, ?_⟩
  rcases h.pool with h | ⟨h, fb, sp, h1, h2, h3, h4, h5, h6, h7, h8, h9, h10, h11, h12, h13, h14, h15⟩
  · exact .inl h
  · exact .inr ⟨h, fb, sp, h1, h2, c.heap h3 h7, c.heap h4 h11, h5, h6, h7, h8, h9, h10, h11, h12, h13, h14, h15⟩
theorem Bs.on {w : World} {rq : Req} {sb hb mb N0 : Nat} {fr v15 : Value} {po : Bool} {wx W : World} (h : Bs w rq sb hb mb N0 fr v15 po wx) (k : Below N0 wx W) : Bs w rq sb hb mb N0 fr v15 po W := by
  have hi := h.hi
  refine ⟨⟨k.os.trans h.bel.os, k.tape.trans h.bel.tape, k.output.trans h.bel.output, Nat.le_trans h.bel.size k.size, fun i hi' => (k.block i (by omega)).trans (h.bel.block i hi')⟩, Nat.le_trans h.siz k.size, ⟨belowBlock k hi.2.1 h.site.site, belowBlock k hi.1 h.site.host⟩, belowBlock k hi.2.2.2 h.box, h.lo, hi, h.pool.on k⟩
/-- the page's lock, if it was laid. -/
def MapD (mb pb : Nat) (page : Int) (hv qv v26 : Value) (k j : Nat) (W : World) : Prop :=
  (v26 = .pointer (some ⟨pb, 0, none⟩) ∧ W.heap[mb]? = some (.map (oneE page pb) 1) ∧ W.heap[pb]? = some (.cells #[hv, qv] 72 (0, 0))) ∨ (v26 = .pointer none ∧ W.heap[mb]? = some (.map #[] 0) ∧ k = 0 ∧ j = 0)
theorem MapD.below {mb pb : Nat} {page : Int} {hv qv v26 : Value} {k j : Nat} {W W' : World} (h : MapD mb pb page hv qv v26 k j W) (b : Below W.heap.size W W') : MapD mb pb page hv qv v26 k j W' := by
  have c := Chg.of_below (S := fun _ => False) b
  rcases h with ⟨h1, h2, h3⟩ | ⟨h1, h2, h3⟩
  · exact .inl ⟨h1, c.heap h2 (fun h => h), c.heap h3 (fun h => h)⟩
  · exact .inr ⟨h1, c.heap h2 (fun h => h), h3⟩
/-- how mk ends. -/
def MkEnds (W : World) (sb : Nat) (q : Req) (e : Ending) (w' : World) : Prop := ∃ c, e = .returned (.pointer (some ⟨c, 0, none⟩)) ∧ W.heap.size + 2 < c ∧ Below W.heap.size W w' ∧ Memb w' sb (entOf c q) (q.ph.tmod 12) 0 false nilV nilV
theorem mk_ends (sb : Nat) (q : Req) (W : World) : Calls Yba.prog 15 #[.pointer (some ⟨sb, 0, none⟩), .agg #[.int .i16 q.dl, .int .i16 q.ar, .int .i8 q.nu, .bool q.upd, .int .u8 q.ph, .bool q.lend]] W fun e w' => MkEnds W sb q e w' := by
  refine (mk_is sb q W).mono ?_
  rintro e w' ⟨rfl, rfl⟩
  exact ⟨_, rfl, by omega, mkW_below W sb q, mkW_memb W sb q⟩
theorem SrcR.at {w : World} {a0 : Option Addr} {rs : List Req} (h : SrcR w a0 rs) {k : Nat} {q : Req} (hq : rs[k]? = some q) : ∃ b off, a0 = some ⟨b, off, none⟩ ∧ w.cell? ⟨b, off + k * 6, none⟩ = some (.int .i16 q.dl) ∧ w.cell? ⟨b, off + k * 6 + 1, none⟩ = some (.int .i16 q.ar) ∧ w.cell? ⟨b, off + k * 6 + 2, none⟩ = some (.int .i8 q.nu) ∧ w.cell? ⟨b, off + k * 6 + 3, none⟩ = some (.bool q.upd) ∧ w.cell? ⟨b, off + k * 6 + 4, none⟩ = some (.int .u8 q.ph) ∧ w.cell? ⟨b, off + k * 6 + 5, none⟩ = some (.bool q.lend) := by
  rcases h with h | ⟨b, off, h1, h2⟩
  · rw [h] at hq; simp at hq
  · exact ⟨b, off, h1, h2 k q hq 0 _ rfl, h2 k q hq 1 _ rfl, h2 k q hq 2 _ rfl, h2 k q hq 3 _ rfl, h2 k q hq 4 _ rfl, h2 k q hq 5 _ rfl⟩
theorem Mk.chg {N0 H cap sb k P : Nat} {es : List Ent} {w0 wr w' : World} (h : Mk N0 H cap sb k es w0 wr) (c : Chg (· = P) wr w') (hP : N0 ≤ P) (hN : N0 ≤ wr.heap.size) (hPH : P = H + 1) : Mk N0 H cap sb k es w0 w' := by
  refine ⟨⟨c.os.trans h.bel.os, c.tape.trans h.bel.tape, c.output.trans h.bel.output, Nat.le_trans h.bel.size c.size, fun i hi => (c.block i (by omega) (by omega)).trans (h.bel.block i hi)⟩, h.len, h.hol.chg c (by omega), fun e he => ?_, h.far, h.low⟩
  have := h.low e he
  exact (h.mem e he).chg c (by omega) (by omega) (by omega)
theorem phc_snoc (es : List Ent) (e : Ent) : phc (es ++ [e]) = phc es ++ [.int .u8 e.ph] := by simp [phc]
theorem phc_length (es : List Ent) : (phc es).length = es.length := by simp [phc]
/-- one turn of the loop over the holders. -/
theorem Mk.turn {N0 sb k n0 c : Nat} {es : List Ent} {q : Req} {w0 wr W1 w2 W3 w4 W5 w6 : World} (h : Mk N0 N0 n0 sb k es w0 wr) (hN : N0 + 2 ≤ wr.heap.size) (b1 : Below wr.heap.size wr W1) (b2 : Below W1.heap.size W1 w2) (hM : Memb w2 sb (entOf c q) (q.ph.tmod 12) 0 false nilV nilV) (hc : W1.heap.size + 2 < c)
    (b3 : Below w2.heap.size w2 W3) (hol : OwnC w4 2 79 N0 (k + 1) n0 (lc es ++ [.pointer (some ⟨c, 0, none⟩), .int .u8 (if q.upd then 2 else 1)])) (c4 : Chg (· = N0) W3 w4) (b5 : Below w4.heap.size w4 W5) (c6 : Chg (· = N0 + 1) W5 w6) : Mk N0 N0 n0 sb (k + 1) (es ++ [entOf c q]) w0 w6 := by
  have hs1 := b1.size
  have hs2 := b2.size
  have hs3 := b3.size
  have hs4 := c4.size
  have hs5 := b5.size
  have b13 : Below wr.heap.size wr W3 := (b1.next b2).next b3
  have h4 := h.snoc (e := entOf c q) (Nat.le_refl _) (by omega) b13 (hM.below b3) (by show wr.heap.size + 2 < c; omega) hol c4
  exact (h4.below (by omega) b5).chg c6 (by omega) (by omega) rfl
end Go.Proofs.Ybulkboha
