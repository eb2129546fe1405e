import Derived.Test.YbulkbohaHeapify
namespace Go.Proofs.Ybulkboha
open Go.RowKit
set_option linter.unusedVariables false

/-- the variable that holds a heap. -/
def HVar (w : World) (ph b n cap : Nat) : Prop := w.heap[ph]? = some (.cells #[.slice (some ⟨b, 0, none⟩) n cap] 24 (0, 0))
theorem HVar.cell {w : World} {ph b n cap : Nat} (h : HVar w ph b n cap) : w.cell? ⟨ph, 0, none⟩ = some (.slice (some ⟨b, 0, none⟩) n cap) := by rw [cell_of_row w ph 0 _ 24 _ h]; rfl
theorem HVar.free {w : World} {ph b n cap : Nat} (h : HVar w ph b n cap) : w.frozen? ⟨ph, 0, none⟩ = false := frozen_of_row w ph 0 _ 24 h

/-- all but the blocks b and p is as it was. -/
structure Oth2 (b p N : Nat) (w w' : World) : Prop where
  os : w'.os = w.os
  tape : w'.tape = w.tape
  output : w'.output = w.output
  size : w.heap.size ≤ w'.heap.size
  block : ∀ k, k < N → k ≠ b → k ≠ p → w'.heap[k]? = w.heap[k]?

/-- pop's world when 'last' has been read. -/
structure PopW (w : World) (x0 xn : Int × Int) (wx : World) : Prop where
  bel : Below w.heap.size w wx
  size : wx.heap.size = w.heap.size + 3
  res : BoxS wx w.heap.size (0, 0)
  top : BoxS wx (w.heap.size + 1) x0
  last : BoxS wx (w.heap.size + 2) xn

theorem popW_made (w : World) (x0 xn : Int × Int) (A B C : Obj) (hA : A = .cells #[.int .i64 0, .int .u64 0, .pointer none] 29 (0, 0)) (hB : B = .cells #[.int .i64 x0.1, .int .u64 x0.2, .pointer none] 29 (0, 0)) (hC : C = .cells #[.int .i64 xn.1, .int .u64 xn.2, .pointer none] 29 (0, 0)) :
    PopW w x0 xn (((w.alloc A).alloc B).alloc C) := by
  subst hA hB hC
  refine ⟨(((Below.refl _ _).alloc (Nat.le_refl _) _).alloc (by simp) _).alloc (by simp; omega) _, by simp, ?_, ?_, ?_⟩
  · unfold BoxS
    rw [Below.heap_alloc _ _ _ (by simp; omega), Below.heap_alloc _ _ _ (by simp), heap_alloc_new]
  · unfold BoxS
    rw [Below.heap_alloc _ _ _ (by simp)]
    have := heap_alloc_new (w.alloc (.cells #[.int .i64 0, .int .u64 0, .pointer none] 29 (0, 0))) (.cells #[.int .i64 x0.1, .int .u64 x0.2, .pointer none] 29 (0, 0))
    simpa using this
  · have := heap_alloc_new ((w.alloc (.cells #[.int .i64 0, .int .u64 0, .pointer none] 29 (0, 0))).alloc (.cells #[.int .i64 x0.1, .int .u64 x0.2, .pointer none] 29 (0, 0))) (.cells #[.int .i64 xn.1, .int .u64 xn.2, .pointer none] 29 (0, 0))
    simpa [BoxS] using this

/-- pop's world when the heap has been made shorter. -/
structure PopS (w : World) (ph b n cap : Nat) (x0 xn : Int × Int) (row : List (Int × Int)) (wx : World) : Prop where
  row : RowS wx b row
  var : HVar wx ph b n cap
  oth : Oth2 b ph w.heap.size w wx
  size : w.heap.size + 3 ≤ wx.heap.size
  res : BoxS wx w.heap.size (0, 0)
  top : BoxS wx (w.heap.size + 1) x0
  last : BoxS wx (w.heap.size + 2) xn

theorem take_zero (xs rest : List (Int × Int)) (n : Nat) (h : xs.length = n + 1) : xs.set n (0, 0) ++ rest = xs.take n ++ ((0, 0) :: rest) := by
  have e : xs.set n (0, 0) = xs.take n ++ [(0, 0)] := by
    apply List.ext_getElem?
    intro j
    rw [List.getElem?_set, List.getElem?_append, List.length_take, h, show min n (n + 1) = n by omega]
    by_cases hj : n = j
    · subst hj; rw [if_pos rfl, if_pos (by omega), if_neg (by omega), Nat.sub_self]; rfl
    · rw [if_neg hj]
      by_cases hl : j < n
      · rw [if_pos hl, List.getElem?_take_of_lt hl]
      · rw [if_neg hl, List.getElem?_eq_none (by omega), List.getElem?_eq_none (by simp; omega)]
  rw [e, List.append_assoc]; rfl

theorem BoxS.free {w : World} {B : Nat} {s : Int × Int} (h : BoxS w B s) (o : Nat) : w.frozen? ⟨B, o, none⟩ = false := frozen_of_row w B o _ 29 h

theorem popS_made {w wc : World} {ph b n cap : Nat} {x0 xn : Int × Int} {xs rest : List (Int × Int)} (D : PopW w x0 xn wc) (hb : b < w.heap.size) (hph : ph < w.heap.size) (hne : ph ≠ b) (hn : xs.length = n + 1)
    (R : RowS wc b (xs ++ rest)) (C : HVar wc ph b (n + 1) cap) :
    PopS w ph b n cap x0 xn (xs.take n ++ ((0, 0) :: rest)) ((((wc.setCell ⟨b, n * 3, none⟩ (.int .i64 0)).setCell ⟨b, n * 3 + 1, none⟩ (.int .u64 0)).setCell ⟨b, n * 3 + 2, none⟩ (.pointer none)).setCell ⟨ph, 0, none⟩ (.slice (some ⟨b, 0, none⟩) n cap)) := by
  have S := R.setL n (0, 0) (by omega)
  rw [take_zero xs rest n hn] at S
  have o3 : ∀ k, k ≠ b → (((wc.setCell ⟨b, n * 3, none⟩ (.int .i64 0)).setCell ⟨b, n * 3 + 1, none⟩ (.int .u64 0)).setCell ⟨b, n * 3 + 2, none⟩ (.pointer none)).heap[k]? = wc.heap[k]? := fun k hk => by
    rw [Below.heap_setCell _ _ _ _ hk, Below.heap_setCell _ _ _ _ hk, Below.heap_setCell _ _ _ _ hk]
  refine ⟨?_, ?_, ⟨D.bel.os, D.bel.tape, D.bel.output, ?_, fun k hk h1 h2 => ?_⟩, ?_, ?_, ?_, ?_⟩
  · unfold RowS; rw [Below.heap_setCell _ _ _ _ (Ne.symm hne)]; exact S
  · unfold HVar
    rw [heap_setCell_same _ ph 0 _ 24 _ ((o3 ph hne).trans C)]
    rfl
  · simp [World.setCell, D.size]
  · rw [Below.heap_setCell _ _ _ _ h2, o3 k h1]; exact D.bel.block k hk
  · simp [World.setCell, D.size]
  · unfold BoxS; rw [Below.heap_setCell _ _ _ _ (by show _ ≠ ph; omega), o3 _ (by omega)]; exact D.res
  · unfold BoxS; rw [Below.heap_setCell _ _ _ _ (by show _ ≠ ph; omega), o3 _ (by omega)]; exact D.top
  · unfold BoxS; rw [Below.heap_setCell _ _ _ _ (by show _ ≠ ph; omega), o3 _ (by omega)]; exact D.last

theorem popS_down {w wc w1 : World} {ph b n cap : Nat} {x0 xn : Int × Int} {r1 r2 : List (Int × Int)} (D : PopS w ph b n cap x0 xn r1 wc) (hb : b < w.heap.size) (hph : ph < w.heap.size) (hne : ph ≠ b)
    (R : RowS w1 b r2) (O : Oth b wc.heap.size wc w1) : PopS w ph b n cap x0 xn r2 w1 := by
  have hs := D.size
  have hz := O.size
  refine ⟨R, (O.block ph (by omega) hne).trans D.var, ⟨O.os.trans D.oth.os, O.tape.trans D.oth.tape, O.output.trans D.oth.output, by omega, fun k hk h1 h2 => (O.block k (by omega) h1).trans (D.oth.block k hk h1 h2)⟩, by omega,
    (O.block _ (by omega) (by omega)).trans D.res, (O.block _ (by omega) (by omega)).trans D.top, (O.block _ (by omega) (by omega)).trans D.last⟩

theorem pop_perm (xs : List (Int × Int)) (n : Nat) (h : xs.length = n + 2) : xs.Perm (gE xs 0 :: (xs.take (n + 1)).set 0 (gE xs (n + 1))) := by
  match xs, h with
  | x :: t, h =>
    have ht : t.length = n + 1 := by simpa using h
    have e0 : gE (x :: t) 0 = x := rfl
    have e1 : gE (x :: t) (n + 1) = t[n]'(by omega) := by rw [gE_eq (by simp; omega)]; rfl
    rw [e0, e1]
    simp only [List.take_succ_cons, List.set_cons_zero]
    refine List.Perm.cons x ?_
    have et : t = t.take n ++ [t[n]'(by omega)] := by
      have := List.take_append_getElem (l := t) (i := n) (by omega)
      rw [this, List.take_of_length_le (by omega)]
    have : (t.take n ++ [t[n]'(by omega)]).Perm ([t[n]'(by omega)] ++ t.take n) := List.perm_append_comm
    rw [← et] at this
    exact this

theorem heap_take {xs : List (Int × Int)} (n k : Nat) (h : HeapFrom k xs) (hn : n ≤ xs.length) : HeapFrom k (xs.take n) := by
  intro j h1 h2 h3
  rw [List.length_take] at h2
  have e : ∀ i, i < n → gE (xs.take n) i = gE xs i := fun i hi => by
    rw [gE_eq (by rw [List.length_take]; omega), gE_eq (by omega), List.getElem_take]
  rw [e j (by omega), e _ (by omega)]
  exact h j h1 (by omega) h3
theorem heap_mono {xs : List (Int × Int)} {k l : Nat} (h : HeapFrom k xs) (hk : k ≤ l) : HeapFrom l xs := fun j h1 h2 h3 => h j h1 h2 (by omega)
theorem heap_nil (k : Nat) : HeapFrom k [] := fun j _ h2 _ => by simp at h2

set_option maxHeartbeats 1000000 in
theorem pop_any (ph b n cap : Nat) (xs rest : List (Int × Int)) (w : World) (hb : b < w.heap.size) (hph : ph < w.heap.size) (hne : ph ≠ b) (hn : xs.length = n + 1) (hlim : n ≤ 4096) (hcap : n + 1 ≤ cap)
    (hrow : RowS w b (xs ++ rest)) (hcell : HVar w ph b (n + 1) cap) (hh : HeapFrom 0 xs) :
    Calls Yba.prog 9 #[.pointer (some ⟨ph, 0, none⟩)] w fun e w' => e = .returned (schedV (gE xs 0)) ∧
      ∃ ys rest', RowS w' b (ys ++ rest') ∧ ys.length = n ∧ xs.Perm (gE xs 0 :: ys) ∧ HeapFrom 0 ys ∧ HVar w' ph b n cap ∧ Oth2 b ph w.heap.size w w' := by
  have HR : Hid (RowS w b (xs ++ rest)) := hrow
  have HN : Hid (xs.length = n + 1) := hn
  have HH : Hid (HeapFrom 0 xs) := hh
  have HC : Hid (HVar w ph b (n + 1) cap) := hcell
  have c0 := hcell.cell
  have r := hrow.cellsL 0 (by omega)
  have q := hrow.cellsL n (by omega)
  rw [Nat.zero_mul] at r
  clear hrow hn hh hcell
  generalize hx0 : gE xs 0 = x0 at r
  generalize hxn : gE xs n = xn at q
  have HX0 : Hid (gE xs 0 = x0) := hx0
  have HXN : Hid (gE xs n = xn) := hxn
  clear hx0 hxn
  go_enter Yba.func9, Yba.ntmps9
  go_upto_region 4 with fail
  go_cut [6] (fun p wx => p = .pointer (some ⟨w.heap.size + 2, 0, none⟩) ∧ PopW w x0 xn wx)
  case first =>
    go_wp2
    go_meet
    case rel => exact ⟨rfl, popW_made w x0 xn _ _ _ rfl rfl rfl⟩
  case rest =>
    obtain ⟨rfl, D⟩ := hcut
    clear c0 r q
    have R1 : RowS wc b (xs ++ rest) := below_row HR.out D.bel hb
    have C1 : HVar wc ph b (n + 1) cap := (D.bel.block ph hph).trans HC.out
    have c0 := C1.cell
    have g0 := C1.free
    have q := R1.cellsL n (by have := HN.out; omega)
    have f := R1.free
    go_upto_region 7 with fail
    go_cut [] (fun wx => PopS w ph b n cap x0 xn (xs.take n ++ ((0, 0) :: rest)) wx)
    case first =>
      go_wp2
      go_meet
      case rel => exact popS_made D hb hph hne HN.out R1 C1
    case rest =>
      have P := hcut
      clear hcut c0 g0 q f R1 C1 D
      go_upto_if 31 with fail
      go_cut [] (fun wx => ∃ ys rest', PopS w ph b n cap x0 xn (ys ++ rest') wx ∧ ys.length = n ∧ xs.Perm (x0 :: ys) ∧ HeapFrom 0 ys)
      case first =>
        cases n with
        | zero =>
          go_wp2
          go_meet
          case rel =>
            refine ⟨[], (0, 0) :: rest, P, rfl, ?_, heap_nil 0⟩
            have h1 := HN.out
            have h0 := HX0.out
            match xs, h1, h0 with
            | [x], _, h0 => rw [← h0]; exact List.Perm.refl _
        | succ n =>
          have x := P.last.cells
          have HD : Hid (∀ cap', Calls Yba.prog 12 #[.slice (some ⟨b, 0, none⟩) (n + 1) cap', .agg #[.int .i64 xn.1, .int .u64 xn.2, .pointer none], .int .i64 0] wc fun e w' =>
            e = .returned (.tuple #[]) ∧ ∃ ys, RowS w' b (ys ++ ((0, 0) :: rest)) ∧ ys.Perm ((xs.take (n + 1)).set 0 xn) ∧ HeapFrom 0 ys ∧ Oth b wc.heap.size wc w') := by
            intro cap'
            exact down_raw b (n + 1) cap' (xs.take (n + 1)) _ xn.1 xn.2 0 wc (by have := P.size; omega) (by rw [List.length_take]; have := HN.out; omega) hlim (by omega) P.row (heap_mono (heap_take (n + 1) 0 HH.out (by have := HN.out; omega)) (by omega))
          go_wp2_with (go_at_call 12; refine (HD.out _).mono ?_; rintro e w1 ⟨rfl, ys, R1, P1, H1, O1⟩)
          go_meet
          case rel =>
            refine ⟨ys, (0, 0) :: rest, popS_down P hb hph hne R1 O1, ?_, ?_, H1⟩
            · rw [P1.length_eq, List.length_set, List.length_take]; have := HN.out; omega
            · have hp := pop_perm xs n HN.out
              rw [HX0.out, HXN.out] at hp
              exact hp.trans (List.Perm.cons x0 P1.symm)
      case rest =>
        obtain ⟨ys, rest', Q, hl, hp, hh⟩ := hcut
        have y := Q.top.cells
        have z := Q.res.cells
        have zf := Q.res.free
        go_wp2
        have hN := heap_setCell_same _ w.heap.size 2 _ 29 (.pointer none) (heap_setCell_same _ w.heap.size 1 _ 29 (.int .u64 x0.2) (heap_setCell_same wc w.heap.size 0 _ 29 (.int .i64 x0.1) Q.res))
        have o3 : ∀ k, k ≠ w.heap.size → (((wc.setCell ⟨w.heap.size, 0, none⟩ (.int .i64 x0.1)).setCell ⟨w.heap.size, 1, none⟩ (.int .u64 x0.2)).setCell ⟨w.heap.size, 2, none⟩ (.pointer none)).heap[k]? = wc.heap[k]? := fun k hk => by
          rw [Below.heap_setCell _ _ _ _ hk, Below.heap_setCell _ _ _ _ hk, Below.heap_setCell _ _ _ _ hk]
        refine bodyPost_ret (v := schedV x0) (results_cell_row Yba.results9 _ _ w.heap.size 29 _ (0, 0) _ rfl hN Yba.underlying29 rfl (by kernel_rfl)) rfl ⟨rfl, ys, ⟨rest', ?_⟩, hl, hp, hh, ?_, ?_⟩
        · exact (o3 b (by omega)).trans Q.row
        · exact (o3 ph (by omega)).trans Q.var
        · exact ⟨Q.oth.os, Q.oth.tape, Q.oth.output, by have := Q.size; simp [World.setCell]; omega, fun k hk h1 h2 => (o3 k (by omega)).trans (Q.oth.block k hk h1 h2)⟩
end Go.Proofs.Ybulkboha
