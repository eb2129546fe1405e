import Derived.Test.YbulkbohaCopy
namespace Go.Proofs.Ybulkboha
open Go.RowKit
set_option linter.unusedVariables false

/-- sorted's world: the new row, all that was there as it was. -/
structure SW (w : World) (zs : List (Int × Int)) (wx : World) : Prop where
  row : RowI wx w.heap.size zs
  bel : Below w.heap.size w wx
  lt : w.heap.size < wx.heap.size
theorem SW.below {w wx wy : World} {zs : List (Int × Int)} (h : SW w zs wx) (k : Below wx.heap.size wx wy) : SW w zs wy :=
  ⟨below_rowI h.row k h.lt, h.bel.trans (k.mono (by have := h.lt; omega)), by have := k.size; have := h.lt; omega⟩
theorem SW.set {w wx : World} {zs : List (Int × Int)} (h : SW w zs wx) (j : Nat) (y : Int × Int) (hj : j < zs.length) :
    SW w (zs.set j y) ((wx.setCell ⟨w.heap.size, j * 2, none⟩ (.int .i64 y.1)).setCell ⟨w.heap.size, j * 2 + 1, none⟩ (.int .u64 y.2)) :=
  ⟨h.row.set j y hj, (h.bel.setCell (Nat.le_refl _) _).setCell (Nat.le_refl _) _, by simpa [World.setCell] using h.lt⟩
def insT (zs : List (Int × Int)) (j : Nat) : Bool := decide (0 < j) && ltE (gE zs j) (gE zs (j - 1))

theorem sorted_start (w : World) (xs : List (Int × Int)) (Z : Array Value) :
    SW w xs ((w.alloc (.cells Z 32)).setRow w.heap.size (ic xs).toArray) := by
  refine ⟨setRow_heap _ _ _ _ _ _ (heap_alloc_new _ _), ?_, by simp⟩
  have hb := (Below.refl w.heap.size w).alloc (Nat.le_refl _) (.cells Z 32)
  exact ⟨hb.os, hb.tape, hb.output, by rw [setRow_size]; exact hb.size, fun k hk => by rw [setRow_other _ _ _ _ (by omega)]; exact hb.block k hk⟩

theorem keep4 {w w1 : World} (hb : Below w.heap.size w w1) {p1 p2 p3 p4 : Addr} {v1 v2 v3 v4 : Value}
    (h : w.cell? p1 = some v1 ∧ w.cell? p2 = some v2 ∧ w.cell? p3 = some v3 ∧ w.cell? p4 = some v4) :
    w1.cell? p1 = some v1 ∧ w1.cell? p2 = some v2 ∧ w1.cell? p3 = some v3 ∧ w1.cell? p4 = some v4 := by
  have k : ∀ p v, w.cell? p = some v → w1.cell? p = some v := fun p v h => (hb.cell (block_lt_of_cell h)).trans h
  exact ⟨k _ _ h.1, k _ _ h.2.1, k _ _ h.2.2.1, k _ _ h.2.2.2⟩

set_option maxHeartbeats 1000000 in
theorem sorted_any (a0 : Option Addr) (n cap : Nat) (xs : List (Int × Int)) (w : World) (hn : xs.length = n) (hlim : n ≤ 4096) (hsrc : SrcI w a0 xs) :
    Calls Yba.prog 8 #[.slice a0 n cap] w fun e w' =>
      e = .returned (.slice (some ⟨w.heap.size, 0, none⟩) n n) ∧ ∃ zs, SW w zs w' ∧ zs.Perm xs ∧ SortedE zs := by
  have HS : Hid (SrcI w a0 xs) := hsrc
  have HN : Hid (xs.length = n) := hn
  have hmk := fun wx => make_items wx n hlim
  clear hsrc hn
  go_enter Yba.func8, Yba.ntmps8
  go_upto_region 2 with fail
  go_cut [] (fun wx => SW w xs wx)
  case first =>
    go_wp2_with (refine wpList_copy2 rfl (.tmp 10) (.tmp 11) rfl w.heap.size n cap n a0 xs (ic (zrow n)).toArray rfl rfl HN.out (HS.out.below ((Below.refl _ _).alloc (Nat.le_refl _) _)) (heap_alloc_new _ _) (by simp [ic_length, zrow_length]) ?_)
    go_meet
    case rel => exact sorted_start w xs _
  case rest =>
    have S0 : Hid (SW w xs wc) := hcut
    clear hcut hmk
    go_wp2
    go_loopw [4] (fun i wr => ∃ (k : Nat) (zs : List (Int × Int)), i = .int .i64 k ∧ 1 ≤ k ∧ zs.Perm xs ∧ SW w zs wr ∧ SortedTo zs k) (fun i _ => n - (intOf i).toNat)
    case atStart => exact ⟨1, xs, rfl, by omega, List.Perm.refl _, S0.out, fun a b h1 h2 => by omega⟩
    case round =>
      obtain ⟨k, zs, rfl, hk1, hp, S, ho⟩ := hrel
      have HL : Hid (zs.length = n) := hp.length_eq.trans HN.out
      by_cases hkn : k < n
      · have HI : Hid (InsInv xs k zs k) := ins_start hp.length_eq (by have := HL.out; omega) hp ho
        have HSS : Hid (SW w zs wr) := S
        clear ho S hp HL
        go_wp2
        go_loopw [5] (fun j wx => ∃ (q : Nat) (ys : List (Int × Int)), j = .int .i64 q ∧ InsInv xs k ys q ∧ SW w ys wx) (fun j _ => (intOf j).toNat)
        case atStart => exact ⟨k, zs, rfl, HI.out, HSS.out⟩
        case round =>
          obtain ⟨q, ys, rfl, I, S⟩ := hrel
          have hql := I.le
          have HL : Hid (ys.length = n) := I.len.trans HN.out
          go_upto_region 7 with fail
          go_cut [33] (fun t wx => t = .bool (insT ys q) ∧ SW w ys wx)
          case first =>
            cases q with
            | zero =>
              have hd : decide ((0 : Int) < ((0 : Nat) : Int)) = false := by decide
              go_quiet (fail)
              go_wp2
              go_meet
              case rel => exact ⟨rfl, S.below (below_drewN (Below.refl _ _) _)⟩
            | succ q =>
              have r := S.row.cells (q + 1) (by have := HL.out; omega)
              have t := S.row.cells q (by have := HL.out; omega)
              obtain ⟨J, hJ⟩ : ∃ J : Int, J = ((q + 1 : Nat) : Int) := ⟨_, rfl⟩
              rw [← hJ]
              have i1 : (0 : Int) < J := by omega
              have i2 : J < (n : Int) := by omega
              have i3 : (0 : Int) ≤ J - 1 := by omega
              have i4 : J - 1 < (n : Int) := by omega
              have i5 : (0 : Int) ≤ J := by omega
              have i6 : wrap64 (J - 1) = J - 1 := by unfold wrap64; omega
              have i7 : IntKind.i64.wrap (J - 1) = J - 1 := by rw [IntKind.wrap_i64]; omega
              have i8 : (1 : Int) ≤ J := by omega
              have i9 : J < (n : Int) + 1 := by omega
              have i10 : J ≤ (n : Int) := by omega
              rw [show q + 1 = J.toNat by omega] at r
              rw [show q = (J.toNat - 1) by omega] at t
              have HT : Hid (ltE (gE ys J.toNat) (gE ys (J.toNat - 1)) = insT ys (q + 1)) := by
                show _ = _
                rw [show J.toNat = q + 1 by omega, show q + 1 - 1 = q by omega]
                simp [insT]
              have HJ : Hid (J = ((q + 1 : Nat) : Int)) := hJ
              clear hJ
              generalize gE ys J.toNat = rv at r HT
              generalize gE ys (J.toNat - 1) = tv at t HT
              go_region_held3 (fun w' => w'.cell? ⟨w.heap.size, J.toNat * 2, none⟩ = some (.int .i64 rv.1) ∧ w'.cell? ⟨w.heap.size, J.toNat * 2 + 1, none⟩ = some (.int .u64 rv.2) ∧
                  w'.cell? ⟨w.heap.size, (J.toNat - 1) * 2, none⟩ = some (.int .i64 tv.1) ∧ w'.cell? ⟨w.heap.size, (J.toNat - 1) * 2 + 1, none⟩ = some (.int .u64 tv.2))
                (first | exact ⟨r.1, r.2, t.1, t.2⟩ | exact keep4 (by assumption) (by assumption)) ((go_at_call 13; refine (less_raw _ _ _ _ _).mono ?_; rintro e w1 ⟨rfl, hb1⟩))
              go_wp2
              have hJ := HJ.out
              subst hJ
              go_meet
              case rel => exact ⟨val_bool HT.out, S.below ((Below.refl _ _).drew.trans hb1)⟩
          case rest =>
            obtain ⟨rfl, S1⟩ := hcut
            clear S
            by_cases hT : insT ys q = true
            · cases q with
              | zero => simp [insT] at hT
              | succ q =>
                have HX : Hid (InsInv xs k ((ys.set (q + 1) (gE ys q)).set q (gE ys (q + 1))) q) := by
                  have hlt : ltE (gE ys (q + 1)) (gE ys q) = true := by simpa [insT] using hT
                  exact ins_step I (by omega) hlt
                have r := S1.row.cells (q + 1) (by have := HL.out; omega)
                have t := S1.row.cells q (by have := HL.out; omega)
                have f := S1.row.free
                have hsz := S1.lt
                rw [hT]
                clear hT
                go_wp2
                go_roundw
                case rel => exact ⟨q, _, rfl, HX.out, ((S1.set (q + 1) (gE ys q) (by have := HL.out; omega)).set q (gE ys (q + 1)) (by rw [List.length_set]; have := HL.out; omega)).below ((Below.refl _ _).alloc (Nat.le_refl _) _)⟩
                case measure => simp [intOf]
            · have hT : insT ys q = false := by simpa using hT
              have HX : Hid (SortedTo ys (k + 1)) := by
                refine ins_end I (fun h => ?_)
                have h' : 0 < q := h
                simpa [insT, h'] using hT
              have HP : Hid (ys.Perm xs) := I.perm
              have HS1 : Hid (SW w ys wc) := S1
              clear I S1
              rw [hT]
              clear hT
              go_wp2
              go_roundw
              case rel => exact ⟨k + 1, ys, by go_num, by omega, HP.out, HS1.out, HX.out⟩
              case measure => simp [intOf]; omega
      · go_wp2
        go_ret
        exact ⟨rfl, zs, S, hp, sorted_of_to (fun a b h1 h2 => ho a b h1 (by have := HL.out; omega))⟩
end Go.Proofs.Ybulkboha
