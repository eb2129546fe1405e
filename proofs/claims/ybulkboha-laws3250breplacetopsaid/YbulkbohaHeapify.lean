import Derived.Test.YbulkbohaDown
namespace Go.Proofs.Ybulkboha
open Go.RowKit
set_option linter.unusedVariables false

theorem set_self {xs : List (Int × Int)} {j : Nat} (h : j < xs.length) : xs.set j (gE xs j) = xs := by
  rw [gE_eq h, List.set_getElem_self]

theorem down_raw (b n cap : Nat) (xs rest : List (Int × Int)) (s1 s2 : Int) (i0 : Nat) (w : World) (hb : b < w.heap.size) (hn : xs.length = n) (hlim : n ≤ 4096) (hi : i0 < n)
    (hrow : RowS w b (xs ++ rest)) (hh : HeapFrom (i0 + 1) xs) :
    Calls Yba.prog 12 #[.slice (some ⟨b, 0, none⟩) n cap, .agg #[.int .i64 s1, .int .u64 s2, .pointer none], .int .i64 i0] w fun e w' =>
      e = .returned (.tuple #[]) ∧ ∃ ys, RowS w' b (ys ++ rest) ∧ ys.Perm (xs.set i0 (s1, s2)) ∧ HeapFrom i0 ys ∧ Oth b w.heap.size w w' := down_any b n cap xs rest (s1, s2) i0 w hb hn hlim hi hrow hh

set_option maxHeartbeats 1000000 in
theorem heapify_any (b n cap : Nat) (xs rest : List (Int × Int)) (w : World) (hb : b < w.heap.size) (hn : xs.length = n) (hlim : n ≤ 4096)
    (hrow : RowS w b (xs ++ rest)) :
    Calls Yba.prog 7 #[.slice (some ⟨b, 0, none⟩) n cap] w fun e w' =>
      e = .returned (.tuple #[]) ∧ ∃ ys, RowS w' b (ys ++ rest) ∧ ys.Perm xs ∧ HeapFrom 0 ys ∧ Oth b w.heap.size w w' := by
  have HR : Hid (RowS w b (xs ++ rest)) := hrow
  have HN : Hid (xs.length = n) := hn
  clear hrow hn
  go_enter Yba.func7, Yba.ntmps7
  go_wp2
  go_loopw [2] (fun i wr => ∃ (m : Nat) (zs : List (Int × Int)), i = .int .i64 ((m : Int) - 1) ∧ m ≤ n / 2 ∧ HeapFrom m zs ∧ zs.Perm xs ∧ RowS wr b (zs ++ rest) ∧ Oth b w.heap.size w wr) (fun i _ => (intOf i + 1).toNat)
  case atStart =>
    refine ⟨n / 2, xs, ?_, Nat.le_refl _, ?_, List.Perm.refl _, HR.out, Oth.refl _ _ _⟩
    · go_num
    · intro j h1 h2 h3
      have := HN.out; omega
  case round =>
    obtain ⟨m, zs, rfl, hm, hh, hp, R, O⟩ := hrel
    cases m with
    | zero =>
      go_wp2
      go_end0
      exact ⟨rfl, zs, R, hp, hh, O⟩
    | succ q =>
      rw [show ((q + 1 : Nat) : Int) - 1 = (q : Int) by omega]
      have hzl : zs.length = n := hp.length_eq.trans HN.out
      have r := R.cellsL q (by omega)
      have hs := O.size
      have HD : Hid (∀ cap', Calls Yba.prog 12 #[.slice (some ⟨b, 0, none⟩) n cap', .agg #[.int .i64 (gE zs q).1, .int .u64 (gE zs q).2, .pointer none], .int .i64 q] wr fun e w' =>
        e = .returned (.tuple #[]) ∧ ∃ ys, RowS w' b (ys ++ rest) ∧ ys.Perm zs ∧ HeapFrom q ys ∧ Oth b wr.heap.size wr w') := by
        intro cap'
        have := down_raw b n cap' zs rest (gE zs q).1 (gE zs q).2 q wr (by omega) hzl hlim (by omega) R hh
        rw [show ((gE zs q).1, (gE zs q).2) = gE zs q from rfl, set_self (by omega)] at this
        exact this
      generalize gE zs q = rv at *
      clear hh R
      go_wp2_with (go_at_call 12; refine (HD.out _).mono ?_; rintro e w1 ⟨rfl, ys, R1, P1, H1, O1⟩)
      go_roundw
      case rel => exact ⟨q, ys, by go_num, by omega, H1, P1.trans hp, R1, O.trans ⟨O1.os, O1.tape, O1.output, O1.size, fun i h1 h2 => O1.block i (by omega) h2⟩⟩
      case measure => simp [intOf]
end Go.Proofs.Ybulkboha
