import Derived.Test.YbulkbohaEnt
import Derived.Deep.CutBlock
namespace Go.Proofs.Ybulkboha
open Go.RowKit
set_option linter.unusedVariables false

def ptr (b : Nat) : Value := .pointer (some ⟨b, 0, none⟩)
/-- the cells of a row of requests, of a row of cohorts. -/
def lc : List Ent → List Value
  | [] => []
  | x :: xs => .pointer (some ⟨x.c, 0, none⟩) :: .int .u8 x.m :: lc xs
def pc : List Ent → List Value
  | [] => []
  | x :: xs => .pointer (some ⟨x.c, 0, none⟩) :: pc xs
theorem lc_length (xs : List Ent) : (lc xs).length = xs.length * 2 := by
  induction xs with
  | nil => rfl
  | cons x xs ih => simp only [lc, List.length_cons, ih]; omega
theorem pc_length (xs : List Ent) : (pc xs).length = xs.length * 1 := by
  induction xs with
  | nil => rfl
  | cons x xs ih => simp only [pc, List.length_cons, ih]; omega
theorem lc_append (xs ys : List Ent) : lc (xs ++ ys) = lc xs ++ lc ys := by
  induction xs with
  | nil => rfl
  | cons x xs ih => simp only [lc, List.cons_append, ih]
theorem pc_append (xs ys : List Ent) : pc (xs ++ ys) = pc xs ++ pc ys := by
  induction xs with
  | nil => rfl
  | cons x xs ih => simp only [pc, List.cons_append, ih]
theorem lc_get (xs : List Ent) (j : Nat) (e : Ent) (h : xs[j]? = some e) : (lc xs)[j * 2]? = some (.pointer (some ⟨e.c, 0, none⟩)) ∧ (lc xs)[j * 2 + 1]? = some (.int .u8 e.m) := by
  induction xs generalizing j with
  | nil => simp at h
  | cons x xs ih =>
    cases j with
    | zero => simp at h; subst h; simp [lc]
    | succ j =>
      have := ih j (by simpa using h)
      rw [show (j + 1) * 2 = j * 2 + 2 by omega]
      simpa [lc] using this
theorem pc_get (xs : List Ent) (j : Nat) (e : Ent) (h : xs[j]? = some e) : (pc xs)[j]? = some (.pointer (some ⟨e.c, 0, none⟩)) := by
  induction xs generalizing j with
  | nil => simp at h
  | cons x xs ih =>
    cases j with
    | zero => simp at h; subst h; simp [pc]
    | succ j => simpa [pc] using ih j (by simpa using h)
theorem pc_one (xs : List Ent) : ∀ u ∈ pc xs, u.oneCell' = true := by
  induction xs with
  | nil => intro u hu; cases hu
  | cons x xs ih =>
    intro u hu
    simp only [pc, List.mem_cons] at hu
    rcases hu with rfl | hu
    · rfl
    · exact ih u hu
theorem lc_one (xs : List Ent) : ∀ u ∈ lc xs, u.oneCell' = true := by
  induction xs with
  | nil => intro u hu; cases hu
  | cons x xs ih =>
    intro u hu
    simp only [lc, List.mem_cons] at hu
    rcases hu with rfl | rfl | hu
    · rfl
    · rfl
    · exact ih u hu

/-- what takers finds: the victims and the lenders; none: a holder stands in the way. -/
def tk (r : Ent) : List Ent → List Ent → List Ent → Option (List Ent × List Ent)
  | [], v, l => some (v, l)
  | h :: hs, v, l => if (h.m == 2 || r.m == 2) = false then tk r hs v l else if lendsP h.ph h.lend then tk r hs v (l ++ [h]) else if rank r.p h.p && abortP h.ph then tk r hs (v ++ [h]) l else none

theorem Yba.info74 : (Yba.prog.info? 74).map (fun i => (i.zero, i.size, i.bytes)) = some (some (.pointer none), 1, 8) := by kernel_rfl
theorem Yba.info79 : (Yba.prog.info? 79).map (fun i => (i.zero, i.size, i.bytes)) = some (some (.agg #[.pointer none, .int .u8 0]), 2, 16) := by kernel_rfl
theorem Yba.info80 : (Yba.prog.info? 80).map (fun i => (i.zero, i.size, i.bytes)) = some (some (.int .u8 0), 1, 1) := by kernel_rfl

/-- a slice of requests that reads as xs. -/
def Reqs (w : World) (v : Value) (xs : List Ent) : Prop := Own w 2 79 v xs.length (lc xs)
def Cohs (w : World) (v : Value) (xs : List Ent) : Prop := Own w 1 74 v xs.length (pc xs)
theorem Reqs.cells {w : World} {v : Value} {xs : List Ent} (h : Reqs w v xs) {j : Nat} {e : Ent} (hj : xs[j]? = some e) :
    ∃ b cap, v = .slice (some ⟨b, 0, none⟩) xs.length cap ∧ w.cell? ⟨b, j * 2, none⟩ = some (.pointer (some ⟨e.c, 0, none⟩)) ∧ w.cell? ⟨b, j * 2 + 1, none⟩ = some (.int .u8 e.m) := by
  have hlt : j < xs.length := (List.getElem?_eq_some_iff.1 hj).1
  obtain ⟨g0, g1⟩ := lc_get xs j e hj
  rcases h.2 with ⟨_, h0⟩ | ⟨b, cap, rest, rfl, h1, h2, h3⟩
  · omega
  · refine ⟨b, cap, rfl, ?_, ?_⟩
    · rw [h3.cell, List.getElem?_append_left (by rw [lc_length]; omega), g0]
    · rw [h3.cell, List.getElem?_append_left (by rw [lc_length]; omega), g1]
theorem Cohs.cells {w : World} {v : Value} {xs : List Ent} (h : Cohs w v xs) {j : Nat} {e : Ent} (hj : xs[j]? = some e) :
    ∃ b cap, v = .slice (some ⟨b, 0, none⟩) xs.length cap ∧ w.cell? ⟨b, j, none⟩ = some (.pointer (some ⟨e.c, 0, none⟩)) := by
  have hlt : j < xs.length := (List.getElem?_eq_some_iff.1 hj).1
  have g0 := pc_get xs j e hj
  rcases h.2 with ⟨_, h0⟩ | ⟨b, cap, rest, rfl, h1, h2, h3⟩
  · omega
  · exact ⟨b, cap, rfl, by rw [h3.cell, List.getElem?_append_left (by rw [pc_length]; omega), g0]⟩
theorem Reqs.len {w : World} {v : Value} {xs : List Ent} (h : Reqs w v xs) : ∃ ao cap, v = .slice ao xs.length cap := by
  rcases h.2 with ⟨h0, h1⟩ | ⟨b, cap, rest, h0, _⟩
  · exact ⟨none, 0, by rw [h0, h1]⟩
  · exact ⟨_, _, h0⟩
theorem Cohs.len {w : World} {v : Value} {xs : List Ent} (h : Cohs w v xs) : ∃ ao cap, v = .slice ao xs.length cap := by
  rcases h.2 with ⟨h0, h1⟩ | ⟨b, cap, rest, h0, _⟩
  · exact ⟨none, 0, by rw [h0, h1]⟩
  · exact ⟨_, _, h0⟩

/-- the world inside takers. -/
structure TkW (w : World) (pb : Nat) (hv : Value) (xs : List Ent) (r : Ent) (vv lv : Value) (vs ls : List Ent) (W : World) : Prop where
  bel : Below w.heap.size w W
  box0 : W.cell? ⟨w.heap.size, 0, none⟩ = some (.pointer (some ⟨r.c, 0, none⟩))
  box1 : W.cell? ⟨w.heap.size, 1, none⟩ = some (.int .u8 r.m)
  vict : Cohs W vv vs
  lend : Cohs W lv ls
  newV : ∀ b, InV vv b → w.heap.size < b
  newL : ∀ b, InV lv b → w.heap.size < b ∧ ¬ InV vv b

theorem TkW.below {w : World} {pb : Nat} {hv vv lv : Value} {xs vs ls : List Ent} {r : Ent} {W W' : World} (h : TkW w pb hv xs r vv lv vs ls W) (k : Below W.heap.size W W') : TkW w pb hv xs r vv lv vs ls W' :=
  ⟨h.bel.next k, k.keep h.box0, k.keep h.box1, Own.chg h.vict (Chg.of_below (S := fun _ => False) k) (fun _ _ h => h), Own.chg h.lend (Chg.of_below (S := fun _ => False) k) (fun _ _ h => h), h.newV, h.newL⟩

theorem tk_skip {r e : Ent} {hs v l : List Ent} (h : (e.m == 2 || r.m == 2) = false) : tk r (e :: hs) v l = tk r hs v l := by
  rw [tk, if_pos h]
theorem tk_lend {r e : Ent} {hs v l : List Ent} (h : (e.m == 2 || r.m == 2) = true) (h2 : lendsP e.ph e.lend = true) : tk r (e :: hs) v l = tk r hs v (l ++ [e]) := by
  rw [tk, if_neg (by rw [h]; simp), if_pos h2]
theorem tk_vict {r e : Ent} {hs v l : List Ent} (h : (e.m == 2 || r.m == 2) = true) (h2 : lendsP e.ph e.lend = false) (h3 : rank r.p e.p = true) (h4 : abortP e.ph = true) : tk r (e :: hs) v l = tk r hs (v ++ [e]) l := by
  rw [tk, if_neg (by rw [h]; simp), if_neg (by rw [h2]; simp), if_pos (by rw [h3, h4]; rfl)]
theorem tk_stop {r e : Ent} {hs v l : List Ent} (h : (e.m == 2 || r.m == 2) = true) (h2 : lendsP e.ph e.lend = false) (h3 : (rank r.p e.p && abortP e.ph) = false) : tk r (e :: hs) v l = none := by
  rw [tk, if_neg (by rw [h]; simp), if_neg (by rw [h2]; simp), if_neg (by rw [h3]; simp)]

theorem TkW.addL {w : World} {pb : Nat} {hv vv lv : Value} {xs vs ls : List Ent} {r e : Ent} {W W1 w5 : World} {v' : Value} (h : TkW w pb hv xs r vv lv vs ls W) (k : Below W.heap.size W W1)
    (o : Own w5 1 74 v' (ls.length + 1) (pc ls ++ [.pointer (some ⟨e.c, 0, none⟩)])) (c : Chg (InV lv) W1 w5) (n5 : (∀ b, InV v' b → InV lv b) ∨ ∃ cc, v' = .slice (some ⟨W1.heap.size, 0, none⟩) (ls.length + 1) cc) :
    TkW w pb hv xs r vv v' vs (ls ++ [e]) w5 := by
  have h1 := h.below k
  have hs1 : w.heap.size < W1.heap.size := block_lt_of_cell h1.box0
  have hnb : ∀ {p : Addr} {x : Value}, W1.cell? p = some x → p.block ≤ w.heap.size → w5.cell? p = some x := by
    intro p x hx hp
    have hb : w5.heap[p.block]? = W1.heap[p.block]? := c.block _ (by omega) (fun hi => by have := (h1.newL _ hi).1; omega)
    rw [← hx]
    unfold World.cell?
    rw [hb]
  refine ⟨⟨c.os.trans h1.bel.os, c.tape.trans h1.bel.tape, c.output.trans h1.bel.output, Nat.le_trans h1.bel.size c.size, fun q hq => (c.block q (by omega) (fun hi => by have := (h1.newL _ hi).1; omega)).trans (h1.bel.block q hq)⟩,
    hnb h1.box0 (Nat.le_refl _), hnb h1.box1 (Nat.le_refl _), Own.chg h1.vict c (fun b hb hl => (h1.newL b hl).2 hb), ?_, h1.newV, ?_⟩
  · show Own w5 1 74 v' (ls ++ [e]).length (pc (ls ++ [e]))
    rw [List.length_append, pc_append]
    exact o
  · intro b hb
    rcases n5 with n5 | ⟨cc, n5⟩
    · exact h1.newL b (n5 b hb)
    · obtain ⟨n', c', e'⟩ := hb
      rw [n5] at e'
      cases e'
      exact ⟨hs1, fun hi => by have := Own.lt h1.vict hi; omega⟩
theorem TkW.addV {w : World} {pb : Nat} {hv vv lv : Value} {xs vs ls : List Ent} {r e : Ent} {W W1 w5 : World} {v' : Value} (h : TkW w pb hv xs r vv lv vs ls W) (k : Below W.heap.size W W1)
    (o : Own w5 1 74 v' (vs.length + 1) (pc vs ++ [.pointer (some ⟨e.c, 0, none⟩)])) (c : Chg (InV vv) W1 w5) (n5 : (∀ b, InV v' b → InV vv b) ∨ ∃ cc, v' = .slice (some ⟨W1.heap.size, 0, none⟩) (vs.length + 1) cc) :
    TkW w pb hv xs r v' lv (vs ++ [e]) ls w5 := by
  have h1 := h.below k
  have hs1 : w.heap.size < W1.heap.size := block_lt_of_cell h1.box0
  have hnb : ∀ {p : Addr} {x : Value}, W1.cell? p = some x → p.block ≤ w.heap.size → w5.cell? p = some x := by
    intro p x hx hp
    have hb : w5.heap[p.block]? = W1.heap[p.block]? := c.block _ (by omega) (fun hi => by have := h1.newV _ hi; omega)
    rw [← hx]
    unfold World.cell?
    rw [hb]
  refine ⟨⟨c.os.trans h1.bel.os, c.tape.trans h1.bel.tape, c.output.trans h1.bel.output, Nat.le_trans h1.bel.size c.size, fun q hq => (c.block q (by omega) (fun hi => by have := h1.newV _ hi; omega)).trans (h1.bel.block q hq)⟩,
    hnb h1.box0 (Nat.le_refl _), hnb h1.box1 (Nat.le_refl _), ?_, Own.chg h1.lend c (fun b hb hl => (h1.newL b hb).2 hl), ?_, ?_⟩
  · show Own w5 1 74 v' (vs ++ [e]).length (pc (vs ++ [e]))
    rw [List.length_append, pc_append]
    exact o
  · intro b hb
    rcases n5 with n5 | ⟨cc, n5⟩
    · exact h1.newV b (n5 b hb)
    · obtain ⟨n', c', e'⟩ := hb
      rw [n5] at e'
      cases e'
      exact hs1
  · intro b hb
    refine ⟨(h1.newL b hb).1, fun hi => ?_⟩
    rcases n5 with n5 | ⟨cc, n5⟩
    · exact (h1.newL b hb).2 (n5 b hi)
    · obtain ⟨n', c', e'⟩ := hi
      rw [n5] at e'
      cases e'
      have := Own.lt h1.lend hb
      omega

/-- how takers ends. -/
def TkEnds (w : World) (r : Ent) (xs : List Ent) (e : Ending) (w' : World) : Prop := Below w.heap.size w w' ∧
      match tk r xs [] [] with
      | none => e = .returned (.tuple #[.slice none 0 0, .slice none 0 0, .bool false])
      | some (vs, ls) => ∃ vv lv, e = .returned (.tuple #[vv, lv, .bool true]) ∧ Cohs w' vv vs ∧ Cohs w' lv ls ∧ (∀ b, InV vv b → w.heap.size ≤ b) ∧ (∀ b, InV lv b → w.heap.size ≤ b)

theorem one_src {w : World} {b : Nat} {v : Value} (h1 : v.oneCell' = true) (h : w.cell? ⟨b, 0, none⟩ = some v) : Src Yba.prog 1 81 (.slice (some ⟨b, 0, none⟩) 1 1) 1 [v] w := by
  refine Src.ofSlice w Yba.underlying81 ⟨b, 0, none⟩ 1 1 [v] rfl ?_ (by simpa using h1)
  intro j u hu
  rw [Addr.add_lit, Nat.zero_add]
  cases j with
  | zero => simp at hu; rw [h, hu]
  | succ j => simp at hu

set_option maxRecDepth 100000 in
set_option maxHeartbeats 1000000 in
theorem takers_is (pb : Nat) (hv : Value) (xs : List Ent) (r : Ent) (w : World) (hp : w.cell? ⟨pb, 0, none⟩ = some hv) (hx : Reqs w hv xs) (hall : ∀ e ∈ xs, Coh w e) (hr : Coh w r) (hlen : xs.length ≤ 2048) :
    Calls Yba.prog 31 #[.pointer (some ⟨pb, 0, none⟩), .agg #[.pointer (some ⟨r.c, 0, none⟩), .int .u8 r.m]] w fun e w' => TkEnds w r xs e w' := by
  obtain ⟨ao, cap, hvE⟩ := hx.len
  have HX : Hid (Reqs w hv xs) := hx
  have HA : Hid (∀ e ∈ xs, Coh w e) := hall
  have HR : Hid (Coh w r) := hr
  have HL : Hid (xs.length ≤ 2048) := hlen
  clear hx hall hr
  subst hvE
  generalize hgn : xs.length = n at *
  have hpl : pb < w.heap.size := block_lt_of_cell hp
  have HN : Hid (xs.length = n) := hgn
  go_enter Yba.func31, Yba.ntmps31
  go_wp2
  go_loopw [4, 5, 14] (fun vv lv i wr => ∃ (k : Nat) (vs ls : List Ent), i = .int .i64 k ∧ k ≤ n ∧ vs.length ≤ k ∧ ls.length ≤ k ∧ tk r (xs.drop k) vs ls = tk r xs [] [] ∧ TkW w pb (.slice ao n cap) xs r vv lv vs ls wr) (fun _ _ i _ => n - (intOf i).toNat)
  case atStart =>
    refine ⟨0, [], [], rfl, by omega, by simp, by simp, rfl, ⟨(Below.refl _ _).alloc (Nat.le_refl _) _, by simp, by simp, ⟨rfl, .inl ⟨rfl, rfl⟩⟩, ⟨rfl, .inl ⟨rfl, rfl⟩⟩, ?_, ?_⟩⟩
    · rintro b ⟨n', c', h⟩; cases h
    · rintro b ⟨n', c', h⟩; cases h
  case round =>
    obtain ⟨k, vs, ls, rfl, hk, hvk, hlk, htk, D⟩ := hrel
    by_cases hlt : k < n
    · obtain ⟨e, he⟩ : ∃ e, xs[k]? = some e := ⟨_, List.getElem?_eq_getElem (by have := HN.out; omega)⟩
      have hx2 : Reqs wr (.slice ao n cap) xs := Own.chg HX.out (Chg.of_below (S := fun _ => False) D.bel) (fun _ _ h => h)
      obtain ⟨b, cap', hE, r0, r1⟩ := hx2.cells he
      have hao : ao = some ⟨b, 0, none⟩ := by cases hE; rfl
      have hd : xs.drop k = e :: xs.drop (k + 1) := by rw [List.drop_eq_getElem_cons (by have := HN.out; omega)]; rw [(List.getElem?_eq_some_iff.1 he).2]
      have HTK : Hid (tk r (e :: xs.drop (k + 1)) vs ls = tk r xs [] []) := by show _ = _; rw [← hd]; exact htk
      have HE : Hid (e ∈ xs) := List.mem_of_getElem? he
      have x0 := D.box0
      have x1 := D.box1
      have hsz : w.heap.size < wr.heap.size := block_lt_of_cell x0
      have HD : Hid (TkW w pb (.slice ao n cap) xs r _ _ vs ls wr) := D
      clear hx2 hE htk hd D he
      subst hao
      go_wp2_with fail
      with_reducible refine (conflicts_is _ _ _ _ _ rfl rfl).mono ?_
      rintro e1 w2 ⟨rfl, hb2⟩
      -- the world behind the box of h and the call
      have hB0 : Below wr.heap.size wr w2 := ((Below.refl _ _).alloc (Nat.le_refl _) _).next hb2
      have HD2 : Hid (TkW w pb (.slice (some ⟨b, 0, none⟩) n cap) xs r u4 u5 vs ls w2) := HD.out.below hB0
      have y0 : w2.cell? ⟨wr.heap.size, 0, none⟩ = some (.pointer (some ⟨e.c, 0, none⟩)) := hb2.keep (by simp)
      have y1 : w2.cell? ⟨wr.heap.size, 1, none⟩ = some (.int .u8 e.m) := hb2.keep (by simp)
      clear x0 x1 r0 r1 HD
      have x0 := HD2.out.box0
      have x1 := HD2.out.box1
      have hsz2 : wr.heap.size < w2.heap.size := block_lt_of_cell y0
      have HCe : Hid (Coh w2 e) := (HA.out e HE.out).below HD2.out.bel
      have HCr : Hid (Coh w2 r) := HR.out.below HD2.out.bel
      clear hb2 hB0
      by_cases hcf : (e.m == 2 || r.m == 2) = true
      · go_wp2_with fail
        with_reducible refine (lends37 e _ HCe.out).mono ?_
        rintro e2 w3 ⟨rfl, rfl⟩
        by_cases hle : lendsP e.ph e.lend = true
        · have HT2 : Hid (tk r (xs.drop (k + 1)) vs (ls ++ [e]) = tk r xs [] []) := by show _ = _; rw [← HTK.out, tk_lend hcf hle]
          go_wp2_with (refine wpList_app rfl 81 (.tmp 27) (.tmp 30) rfl Yba.underlying81 Yba.info74 rfl (by omega) (v := u5) (n := ls.length) (vs := pc ls) (xv := .slice (some ⟨w3.heap.size, 0, none⟩) 1 1) (m := 1) (us := [.pointer (some ⟨e.c, 0, none⟩)]) rfl rfl (Own.chg HD2.out.lend (Chg.of_below (S := fun _ => False) ((Below.refl _ _).alloc (Nat.le_refl _) _)) (fun _ _ h => h)) (one_src rfl (by simp)) (.inl (by omega)) (by omega) ?_; intro v' w5 o5 c5 n5 z5)
          go_roundw
          case rel => exact ⟨k + 1, vs, ls ++ [e], by go_num, by omega, by omega, by simp; omega, HT2.out, HD2.out.addL ((Below.refl _ _).alloc (Nat.le_refl _) _) o5 c5 n5⟩
          case measure => simp [intOf]; omega
        · have hle' : lendsP e.ph e.lend = false := by simpa using hle
          clear hle
          go_wp2_with fail
          with_reducible refine (outranks30 r e _ _ _ HCr.out HCe.out).mono ?_
          rintro e3 w4 ⟨rfl, hb4⟩
          have HD4 : Hid (TkW w pb (.slice (some ⟨b, 0, none⟩) n cap) xs r u4 u5 vs ls w4) := HD2.out.below hb4
          have z0 : w4.cell? ⟨wr.heap.size, 0, none⟩ = some (.pointer (some ⟨e.c, 0, none⟩)) := hb4.keep y0
          have HCe4 : Hid (Coh w4 e) := HCe.out.below hb4
          clear y0 y1 x0 x1 HD2 HCe HCr
          by_cases hrk : rank r.p e.p = true
          · go_wp2_with fail
            with_reducible refine (abort38 e _ HCe4.out.phase).mono ?_
            rintro e4 w6 ⟨rfl, rfl⟩
            by_cases hab : abortP e.ph = true
            · have HT2 : Hid (tk r (xs.drop (k + 1)) (vs ++ [e]) ls = tk r xs [] []) := by show _ = _; rw [← HTK.out, tk_vict hcf hle' hrk hab]
              go_wp2_with (refine wpList_app rfl 81 (.tmp 41) (.tmp 44) rfl Yba.underlying81 Yba.info74 rfl (by omega) (v := u4) (n := vs.length) (vs := pc vs) (xv := .slice (some ⟨w6.heap.size, 0, none⟩) 1 1) (m := 1) (us := [.pointer (some ⟨e.c, 0, none⟩)]) rfl rfl (Own.chg HD4.out.vict (Chg.of_below (S := fun _ => False) ((Below.refl _ _).alloc (Nat.le_refl _) _)) (fun _ _ h => h)) (one_src rfl (by simp)) (.inl (by omega)) (by omega) ?_; intro v' w5 o5 c5 n5 z5)
              go_roundw
              case rel => exact ⟨k + 1, vs ++ [e], ls, by go_num, by omega, by simp; omega, by omega, HT2.out, HD4.out.addV ((Below.refl _ _).alloc (Nat.le_refl _) _) o5 c5 n5⟩
              case measure => simp [intOf]; omega
            · have hab' : abortP e.ph = false := by simpa using hab
              have HT2 : Hid (tk r xs [] [] = none) := by show _ = _; rw [← HTK.out, tk_stop hcf hle' (by rw [hab']; simp)]
              go_wp2
              go_ret3
              refine ⟨HD4.out.bel, ?_⟩
              rw [HT2.out]
              rfl
          · have hrk' : rank r.p e.p = false := by simpa using hrk
            have HT2 : Hid (tk r xs [] [] = none) := by show _ = _; rw [← HTK.out, tk_stop hcf hle' (by rw [hrk']; simp)]
            go_wp2
            go_ret3
            refine ⟨HD4.out.bel, ?_⟩
            rw [HT2.out]
            rfl
      · have hcf' : (e.m == 2 || r.m == 2) = false := by simpa using hcf
        have HT2 : Hid (tk r (xs.drop (k + 1)) vs ls = tk r xs [] []) := by show _ = _; rw [← HTK.out, tk_skip hcf']
        clear hcf
        go_wp2
        go_roundw
        case rel => exact ⟨k + 1, vs, ls, by go_num, by omega, by omega, by omega, HT2.out, HD2.out⟩
        case measure => simp [intOf]; omega
    · have hkn : k = n := by omega
      have HT2 : Hid (tk r xs [] [] = some (vs, ls)) := by show _ = _; rw [← htk, List.drop_of_length_le (by have := HN.out; omega)]; rfl
      go_wp2
      go_ret3
      refine ⟨D.bel, ?_⟩
      rw [HT2.out]
      exact ⟨_, _, rfl, D.vict, D.lend, fun b hb => Nat.le_of_lt (D.newV b hb), fun b hb => Nat.le_of_lt (D.newL b hb).1⟩
end Go.Proofs.Ybulkboha
