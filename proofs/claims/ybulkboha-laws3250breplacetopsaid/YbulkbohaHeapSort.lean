import Derived.Test.YbulkbohaSorted
namespace Go.Proofs.Ybulkboha
open Go.RowKit
set_option linter.unusedVariables false

/-- the law's world: the heap's row at block N, its variable at N + 1; the rest as it was. -/
structure LW (w : World) (m cap : Nat) (row : List (Int × Int)) (wx : World) : Prop where
  row : RowS wx w.heap.size row
  var : HVar wx (w.heap.size + 1) w.heap.size m cap
  bel : Below w.heap.size w wx
  lt : w.heap.size + 1 < wx.heap.size

theorem lw_start (w : World) (n cap m : Nat) (row : List (Int × Int)) : LW w m cap row ((w.alloc (.cells (sc row).toArray 29)).alloc (.cells #[.slice (some ⟨w.heap.size, 0, none⟩) m cap] 24)) := by
  refine ⟨?_, ?_, ((Below.refl _ _).alloc (Nat.le_refl _) _).alloc (by simp) _, by simp⟩
  · unfold RowS; rw [Below.heap_alloc _ _ _ (by simp)]; exact heap_alloc_new _ _
  · have := heap_alloc_new (w.alloc (.cells (sc row).toArray 29)) (.cells #[.slice (some ⟨w.heap.size, 0, none⟩) m cap] 24)
    simpa [HVar] using this
theorem LW.below {w wx wy : World} {m cap : Nat} {row : List (Int × Int)} (h : LW w m cap row wx) (k : Below wx.heap.size wx wy) : LW w m cap row wy :=
  ⟨below_row h.row k (by have := h.lt; omega), (k.block _ h.lt).trans h.var, h.bel.trans (k.mono (by have := h.lt; omega)), by have := k.size; have := h.lt; omega⟩
theorem LW.set {w wx : World} {m cap : Nat} {row : List (Int × Int)} (h : LW w m cap row wx) (j : Nat) (y : Int × Int) (hj : j < row.length) :
    LW w m cap (row.set j y) (((wx.setCell ⟨w.heap.size, j * 3, none⟩ (.int .i64 y.1)).setCell ⟨w.heap.size, j * 3 + 1, none⟩ (.int .u64 y.2)).setCell ⟨w.heap.size, j * 3 + 2, none⟩ (.pointer none)) := by
  refine ⟨h.row.set j y hj, ?_, ((h.bel.setCell (Nat.le_refl _) _).setCell (Nat.le_refl _) _).setCell (Nat.le_refl _) _, by simpa [World.setCell] using h.lt⟩
  unfold HVar
  rw [Below.heap_setCell _ _ _ _ (by show w.heap.size + 1 ≠ w.heap.size; omega), Below.heap_setCell _ _ _ _ (by show w.heap.size + 1 ≠ w.heap.size; omega), Below.heap_setCell _ _ _ _ (by show w.heap.size + 1 ≠ w.heap.size; omega)]
  exact h.var

theorem LW.oth {w wx wy : World} {m cap : Nat} {row row' : List (Int × Int)} (h : LW w m cap row wx) (R : RowS wy w.heap.size row') (O : Oth w.heap.size wx.heap.size wx wy) : LW w m cap row' wy :=
  ⟨R, (O.block _ h.lt (by omega)).trans h.var, h.bel.trans ⟨O.os, O.tape, O.output, O.size, fun k hk => O.block k (by have := h.lt; omega) (by omega)⟩, by have := O.size; have := h.lt; omega⟩

/-- the law's world when the wanted order lies in block M. -/
structure LP (w : World) (M m cap : Nat) (row zs : List (Int × Int)) (wx : World) : Prop where
  lw : LW w m cap row wx
  want : RowI wx M zs
  lt : w.heap.size + 1 < M ∧ M < wx.heap.size
theorem LP.below {w wx wy : World} {M m cap : Nat} {row zs : List (Int × Int)} (h : LP w M m cap row zs wx) (k : Below wx.heap.size wx wy) : LP w M m cap row zs wy :=
  ⟨h.lw.below k, below_rowI h.want k h.lt.2, by have := k.size; have := h.lt; omega⟩
theorem LP.pop {w wx wy : World} {M m m' cap : Nat} {row row' zs : List (Int × Int)} (h : LP w M m cap row zs wx) (R : RowS wy w.heap.size row') (V : HVar wy (w.heap.size + 1) w.heap.size m' cap)
    (O : Oth2 w.heap.size (w.heap.size + 1) wx.heap.size wx wy) : LP w M m' cap row' zs wy :=
  ⟨⟨R, V, h.lw.bel.trans ⟨O.os, O.tape, O.output, O.size, fun k hk => O.block k (by have := h.lw.lt; omega) (by omega) (by omega)⟩, by have := O.size; have := h.lw.lt; omega⟩,
   (O.block M h.lt.2 (by have := h.lt; omega) (by have := h.lt; omega)).trans h.want, by have := O.size; have := h.lt; omega⟩

/-- the root of the heap is the next one wanted. -/
theorem pop_next {ys zs : List (Int × Int)} {k : Nat} (hs : SortedE zs) (hk : k < zs.length) (hp : ys.Perm (zs.drop k)) (hh : HeapFrom 0 ys) : gE ys 0 = gE zs k := by
  have hd : zs.drop k = gE zs k :: zs.drop (k + 1) := by rw [List.drop_eq_getElem_cons hk, gE_eq hk]
  have hpos : 0 < ys.length := by rw [hp.length_eq, hd]; simp
  refine le_antisymm ?_ ?_
  · have hm : gE zs k ∈ ys := hp.mem_iff.2 (by rw [hd]; simp)
    obtain ⟨j, hj, e⟩ := List.getElem_of_mem hm
    have := heap_root hh j hj
    rwa [gE_eq hj, e] at this
  · have hm : gE ys 0 ∈ zs.drop k := hp.mem_iff.1 (by rw [gE_eq hpos]; exact List.getElem_mem _)
    rw [hd] at hm
    rcases List.mem_cons.1 hm with h | h
    · rw [h]; exact lt_irrefl _
    · have hsd : (zs.drop k).Pairwise (fun a b => ltE b a = false) := List.Pairwise.sublist (List.drop_sublist k zs) hs
      rw [hd, List.pairwise_cons] at hsd
      exact hsd.1 _ h
theorem pop_rest {ys ys' zs : List (Int × Int)} {k : Nat} (hs : SortedE zs) (hk : k < zs.length) (hp : ys.Perm (zs.drop k)) (hh : HeapFrom 0 ys) (hq : ys.Perm (gE ys 0 :: ys')) : ys'.Perm (zs.drop (k + 1)) := by
  have hd : zs.drop k = gE zs k :: zs.drop (k + 1) := by rw [List.drop_eq_getElem_cons hk, gE_eq hk]
  have := hq.symm.trans hp
  rw [hd, pop_next hs hk hp hh] at this
  exact List.Perm.cons_inv this

theorem keep5 {w w1 : World} (hb : Below w.heap.size w w1) {p1 p2 p3 p4 p5 : Addr} {v1 v2 v3 v4 v5 : Value}
    (h : w.cell? p1 = some v1 ∧ w.cell? p2 = some v2 ∧ w.cell? p3 = some v3 ∧ w.cell? p4 = some v4 ∧ w.cell? p5 = some v5) :
    w1.cell? p1 = some v1 ∧ w1.cell? p2 = some v2 ∧ w1.cell? p3 = some v3 ∧ w1.cell? p4 = some v4 ∧ w1.cell? p5 = some v5 := by
  have k : ∀ p v, w.cell? p = some v → w1.cell? p = some v := fun p v h => (hb.cell (block_lt_of_cell h)).trans h
  exact ⟨k _ _ h.1, k _ _ h.2.1, k _ _ h.2.2.1, k _ _ h.2.2.2.1, k _ _ h.2.2.2.2⟩

theorem keep3 {w w1 : World} (hb : Below w.heap.size w w1) {p1 p2 p3 : Addr} {v1 v2 v3 : Value}
    (h : w.cell? p1 = some v1 ∧ w.cell? p2 = some v2 ∧ w.cell? p3 = some v3) :
    w1.cell? p1 = some v1 ∧ w1.cell? p2 = some v2 ∧ w1.cell? p3 = some v3 := by
  have k : ∀ p v, w.cell? p = some v → w1.cell? p = some v := fun p v h => (hb.cell (block_lt_of_cell h)).trans h
  exact ⟨k _ _ h.1, k _ _ h.2.1, k _ _ h.2.2⟩

theorem keep3s {w : World} {g o1 o2 o3 : Nat} {u1 u2 u3 : Value} {p1 p2 p3 : Addr} {v1 v2 v3 : Value}
    (h : w.cell? p1 = some v1 ∧ w.cell? p2 = some v2 ∧ w.cell? p3 = some v3) (n1 : p1.block ≠ g) (n2 : p2.block ≠ g) (n3 : p3.block ≠ g) :
    (((w.setCell ⟨g, o1, none⟩ u1).setCell ⟨g, o2, none⟩ u2).setCell ⟨g, o3, none⟩ u3).cell? p1 = some v1 ∧ (((w.setCell ⟨g, o1, none⟩ u1).setCell ⟨g, o2, none⟩ u2).setCell ⟨g, o3, none⟩ u3).cell? p2 = some v2 ∧
      (((w.setCell ⟨g, o1, none⟩ u1).setCell ⟨g, o2, none⟩ u2).setCell ⟨g, o3, none⟩ u3).cell? p3 = some v3 := by
  have k : ∀ p v, p.block ≠ g → w.cell? p = some v → (((w.setCell ⟨g, o1, none⟩ u1).setCell ⟨g, o2, none⟩ u2).setCell ⟨g, o3, none⟩ u3).cell? p = some v := fun p v hn h => by
    rw [← h]
    refine World.cell?_of_block (w := w) ?_
    rw [Below.heap_setCell _ _ _ _ hn, Below.heap_setCell _ _ _ _ hn, Below.heap_setCell _ _ _ _ hn]
  exact ⟨k _ _ n1 h.1, k _ _ n2 h.2.1, k _ _ n3 h.2.2⟩

set_option maxHeartbeats 400000 in
theorem hs_long (a0 : Option Addr) (n cap : Nat) (w : World) (h : 1024 < n) (hm : n ≤ 9223372036854775807) :
    Calls Yba.prog 3 #[.slice a0 n cap] w fun e w' => e = .returned (.bool true) ∧ Below w.heap.size w w' := by
  have h' : (1024 : Int) < (n : Int) := by omega
  go_enter Yba.func3, Yba.ntmps3
  go_wp2
  go_ret
  exact ⟨rfl, Below.refl _ _⟩

set_option maxHeartbeats 1000000 in
theorem hs_any (a0 : Option Addr) (n cap : Nat) (xs : List (Int × Int)) (w : World) (hn : xs.length = n) (hlim : n ≤ 1024) (hsrc : SrcI w a0 xs) :
    Calls Yba.prog 3 #[.slice a0 n cap] w fun e w' => e = .returned (.bool true) ∧ Below w.heap.size w w' := by
  have HS : Hid (SrcI w a0 xs) := hsrc
  have HN : Hid (xs.length = n) := hn
  have h' : ¬ (1024 : Int) < (n : Int) := by omega
  have hmk := fun wx => make_scheds wx n (by omega)
  clear hsrc hn
  go_enter Yba.func3, Yba.ntmps3
  go_upto_region 3 with fail
  go_cut [3] (fun p wx => p = .pointer (some ⟨w.heap.size + 1, 0, none⟩) ∧ LW w n n (zrow n) wx)
  case first =>
    go_wp2
    go_meet
    case rel => exact ⟨rfl, lw_start w n n n (zrow n)⟩
  case rest =>
    obtain ⟨rfl, L0⟩ := hcut
    have HL0 : Hid (LW w n n (zrow n) wc) := L0
    clear L0 hmk
    go_wp2
    go_loopw [4] (fun i wr => ∃ (k : Nat) (ys : List (Int × Int)), i = .int .i64 k ∧ k ≤ n ∧ ys.length = n ∧ (∀ j, j < k → gE ys j = gE xs j) ∧ LW w n n ys wr) (fun i _ => n - (intOf i).toNat)
    case atStart => exact ⟨0, zrow n, rfl, by omega, zrow_length n, fun j hj => by omega, HL0.out⟩
    case round =>
      obtain ⟨k, ys, rfl, hkn, hyl, hye, L⟩ := hrel
      by_cases hlt : k < n
      · rcases HS.out with h | ⟨bs, off, rfl, hc⟩
        · exfalso; have := HN.out; rw [h] at this; simp at this; omega
        · obtain ⟨c0, c1⟩ := hc k (by have := HN.out; omega)
          have hbs : bs < w.heap.size := block_lt_of_cell c0
          have s0 := (L.bel.cell (p := ⟨bs, off + k * 2, none⟩) hbs).trans c0
          have s1 := (L.bel.cell (p := ⟨bs, off + k * 2 + 1, none⟩) hbs).trans c1
          have v0 := L.var.cell
          have r := L.row.cells k (by omega)
          have f := L.row.free
          have hne : bs ≠ w.heap.size := by omega
          have i1 : (0 : Int) ≤ (k : Int) := by omega
          have i2 : (k : Int) < (n : Int) := by omega
          have HX : Hid (∀ j, j < k + 1 → gE (ys.set k (gE xs k)) j = gE xs j) := by
            intro j hj
            by_cases e : j = k
            · subst e; rw [gE_set_same _ (by omega)]
            · rw [gE_set_ne _ (by omega)]; exact hye j (by omega)
          have HLs : Hid (ys.length = n) := hyl
          have HL : Hid (LW w n n ys wr) := L
          clear hc c0 c1 hye hyl L
          go_upto_region 7 with fail
          generalize hy : gE xs k = y at *
          have HY : Hid (gE xs k = y) := hy
          clear hy
          go_region_held3 (fun w' => w'.cell? ⟨w.heap.size + 1, 0, none⟩ = some (.slice (some ⟨w.heap.size, 0, none⟩) n n) ∧ w'.cell? ⟨bs, off + k * 2, none⟩ = some (.int .i64 y.1) ∧ w'.cell? ⟨bs, off + k * 2 + 1, none⟩ = some (.int .u64 y.2))
            (first | exact ⟨v0, s0, s1⟩ | exact keep3 (by assumption) (by assumption) | exact keep3s (by assumption) (by show w.heap.size + 1 ≠ w.heap.size; omega) hne hne) ((go_at_call 6; refine (sched_raw _ _ _).mono ?_; rintro e w4 ⟨rfl, hb4⟩; have hL4 := HL.out.below ((Below.refl _ _).drew.trans hb4); have r4 := hL4.row.cells k (by have := HLs.out; omega); have f4 := hL4.row.free))
          go_wp2
          go_roundw
          case rel => exact ⟨k + 1, ys.set k y, by go_num, by omega, by rw [List.length_set]; exact HLs.out, HX.out, hL4.set k y (by have := HLs.out; omega)⟩
          case measure => simp [intOf]; omega
      · have hk : k = n := by omega
        subst hk
        have hys : ys = xs := by
          apply List.ext_getElem
          · rw [hyl, HN.out]
          · intro j h1 h2
            have := hye j (by omega)
            rwa [gE_eq h1, gE_eq h2] at this
        subst hys
        clear hye hyl
        have c0 := L.var.cell
        have R0 : RowS wr w.heap.size (ys ++ []) := by rw [List.append_nil]; exact L.row
        have HH : Hid (∀ cap', Calls Yba.prog 7 #[.slice (some ⟨w.heap.size, 0, none⟩) k cap'] wr fun e w' => e = .returned (.tuple #[]) ∧ ∃ zs, zs.Perm ys ∧ HeapFrom 0 zs ∧ LW w k k zs w') := by
          intro cap'
          refine (heapify_any w.heap.size k cap' ys [] wr (by have := L.lt; omega) HN.out (by omega) R0).mono ?_
          rintro e w1 ⟨rfl, zs, R1, P1, H1, O1⟩
          rw [List.append_nil] at R1
          exact ⟨rfl, zs, P1, H1, L.oth R1 O1⟩
        clear L R0
        go_wp2_with (go_at_call 7; refine (HH.out _).mono ?_; rintro e w1 ⟨rfl, hs1, P1, H1, L1⟩)
        refine (sorted_any a0 k cap ys w1 HN.out (by omega) (HS.out.below L1.bel)).mono ?_
        rintro e w2 ⟨rfl, zs, S2, P2, O2⟩
        have HP : Hid (LP w w1.heap.size k k (hs1 ++ []) zs w2) := by
          rw [List.append_nil]
          exact ⟨L1.below S2.bel, S2.row, L1.lt, S2.lt⟩
        have HZ : Hid (zs.length = k) := P2.length_eq.trans HN.out
        have HSO : Hid (SortedE zs) := O2
        have HPE : Hid (hs1.Perm zs) := P1.trans P2.symm
        have HH1 : Hid (HeapFrom 0 hs1) := H1
        have hM : w.heap.size + 1 < w1.heap.size := L1.lt
        clear HH c0 L1 S2 P2 O2 P1 H1
        go_wp2
        go_loopw [6] (fun q wx => ∃ (j : Nat) (gs rest : List (Int × Int)), q = .int .i64 j ∧ j ≤ k ∧ LP w w1.heap.size (k - j) k (gs ++ rest) zs wx ∧ gs.Perm (zs.drop j) ∧ HeapFrom 0 gs) (fun q _ => k - (intOf q).toNat)
        case atStart => exact ⟨0, hs1, [], rfl, by omega, HP.out, HPE.out, HH1.out⟩
        case round =>
          obtain ⟨j, gs, rest, rfl, hj, Lp, hg, hh⟩ := hrel
          have c0 := Lp.lw.var.cell
          by_cases hjk : j < k
          · have hgl : gs.length = k - j := by rw [hg.length_eq, List.length_drop, HZ.out]
            have hz0 : (((k - j : Nat) : Int) == 0) = false := by simp; omega
            have HD : Hid (Calls Yba.prog 9 #[.pointer (some ⟨w.heap.size + 1, 0, none⟩)] wr fun e w' => e = .returned (.agg #[.int .i64 (gE zs j).1, .int .u64 (gE zs j).2, .pointer none]) ∧
                ∃ gs' rest', LP w w1.heap.size (k - (j + 1)) k (gs' ++ rest') zs w' ∧ gs'.Perm (zs.drop (j + 1)) ∧ HeapFrom 0 gs') := by
              have hV : HVar wr (w.heap.size + 1) w.heap.size (k - (j + 1) + 1) k := by rw [show k - (j + 1) + 1 = k - j by omega]; exact Lp.lw.var
              refine (pop_any (w.heap.size + 1) w.heap.size (k - (j + 1)) k gs rest wr (by have := Lp.lw.lt; omega) Lp.lw.lt (by omega) (by omega) (by omega) (by omega) Lp.lw.row hV hh).mono ?_
              rintro e w3 ⟨rfl, gs', rest', R3, l3, p3, h3, v3, o3⟩
              refine ⟨by rw [pop_next HSO.out (by have := HZ.out; omega) hg hh]; rfl, gs', rest', Lp.pop R3 v3 o3, pop_rest HSO.out (by have := HZ.out; omega) hg hh p3, h3⟩
            clear hg hh hgl Lp
            go_upto_region 15 with fail
            go_cut [7] (fun p wx => ∃ B gs' rest', p = .pointer (some ⟨B, 0, none⟩) ∧ B < wx.heap.size ∧ BoxS wx B (gE zs j) ∧ LP w w1.heap.size (k - (j + 1)) k (gs' ++ rest') zs wx ∧ gs'.Perm (zs.drop (j + 1)) ∧ HeapFrom 0 gs')
            case first =>
              go_wp2_with (go_at_call 9; refine HD.out.mono ?_; rintro e w3 ⟨rfl, gs', rest', L3, p3, h3⟩)
              go_meet
              case rel => exact ⟨w3.heap.size, gs', rest', rfl, by simp, heap_alloc_new _ _, L3.below ((Below.refl _ _).alloc (Nat.le_refl _) _), p3, h3⟩
            case rest =>
              obtain ⟨B, gs', rest', rfl, hB, X, L3, p3, h3⟩ := hcut
              have x := X.cells
              have r := L3.want.cells j (by have := HZ.out; omega)
              have i1 : (0 : Int) ≤ (j : Int) := by omega
              have i2 : (j : Int) < (k : Int) := by omega
              clear HD c0
              go_upto_region 16 with fail
              go_cut [53] (fun t wx => t = .bool false ∧ LP w w1.heap.size (k - (j + 1)) k (gs' ++ rest') zs wx)
              case first =>
                generalize gE zs j = y at *
                go_region_held3 (fun w' => w'.cell? ⟨B, 0, none⟩ = some (.int .i64 y.1) ∧ w'.cell? ⟨B, 1, none⟩ = some (.int .u64 y.2) ∧ w'.cell? ⟨B, 2, none⟩ = some (.pointer none) ∧
                    w'.cell? ⟨w1.heap.size, j * 2, none⟩ = some (.int .i64 y.1) ∧ w'.cell? ⟨w1.heap.size, j * 2 + 1, none⟩ = some (.int .u64 y.2))
                  (first | exact ⟨x.1, x.2.1, x.2.2, r.1, r.2⟩ | exact keep5 (by assumption) (by assumption)) ((go_at_call 10; refine (item_raw _ _ _).mono ?_; rintro e w4 ⟨rfl, hb4⟩))
                go_wp2
                go_meet
                case rel => exact ⟨rfl, L3.below ((Below.refl _ _).drew.trans hb4)⟩
              case rest =>
                obtain ⟨rfl, L4⟩ := hcut
                clear L3 X x r
                go_wp2
                go_roundw
                case rel => exact ⟨j + 1, gs', rest', by go_num, by omega, L4, p3, h3⟩
                case measure => simp [intOf]; omega
          · have e0 : k - j = 0 := by omega
            go_wp2
            go_ret
            exact ⟨rfl, Lp.lw.bel⟩
end Go.Proofs.Ybulkboha
