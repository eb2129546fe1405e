import Derived.Test.YbulkbohaAppend
namespace Go.Proofs.Ybulkboha
open Go.RowKit
set_option linter.unusedVariables false

/-- the heap xs behind the variable in block ph. -/
def HV (w : World) (ph base : Nat) (xs : List (Int × Int)) : Prop :=
  ∃ v, w.heap[ph]? = some (.cells #[v] 24 (0, 0)) ∧ HeapV w base v xs ∧ v.ownBlock ≠ some ph

theorem news_box {w : World} {s : Int × Int} : BoxS (w.alloc (.cells #[.int .i64 s.1, .int .u64 s.2, .pointer none] 29)) w.heap.size s := heap_alloc_new _ _
theorem HeapV.below {w w' : World} {base : Nat} {v : Value} {xs : List (Int × Int)} (h : HeapV w base v xs) (k : Below w.heap.size w w') : HeapV w' base v xs := by
  rcases h with h | ⟨b, rest, h1, h2, h3, h4⟩
  · exact .inl h
  · exact .inr ⟨b, rest, h1, h2, by have := k.size; omega, below_row h4 k h3⟩

/-- push's world when the entry has been appended. -/
structure PW (w : World) (ph base b : Nat) (xs rest : List (Int × Int)) (s : Int × Int) (wx : World) : Prop where
  row : RowS wx b ((xs ++ [s]) ++ rest)
  var : HVar wx ph b (xs.length + 1) (xs.length + (rest.length + 1))
  box : BoxS wx w.heap.size s
  bel : Below base w wx
  lt : b < wx.heap.size ∧ w.heap.size < wx.heap.size
  ge : base ≤ b ∧ b ≠ ph ∧ b ≠ w.heap.size

theorem two_new (w : World) (A B : Obj) : Below w.heap.size w ((w.alloc A).alloc B).drew := (((Below.refl _ _).alloc (Nat.le_refl _) _).alloc (by simp) _).drew
theorem two_size (w : World) (A B : Obj) {base : Nat} (h : base ≤ w.heap.size) : base ≤ ((w.alloc A).alloc B).drew.heap.size := by
  have e : ((w.alloc A).alloc B).drew.heap.size = w.heap.size + 2 := by show ((w.alloc A).alloc B).heap.size = _; simp
  omega
/-- the block that holds the longer heap: it was the old one's, or it is new. -/
theorem app_block {w : World} {A B : Obj} {base ph b' n C : Nat} {v : Value} {xs : List (Int × Int)} (hV : HeapV w base v xs) (ho : v.ownBlock ≠ some ph) (h : v = .slice (some ⟨b', 0, none⟩) n C ∨ b' = ((w.alloc A).alloc B).drew.heap.size) (hph : ph < w.heap.size) :
    b' ≠ ph ∧ b' ≠ w.heap.size ∧ (b' < w.heap.size ∨ b' = w.heap.size + 2) := by
  have e : ((w.alloc A).alloc B).drew.heap.size = w.heap.size + 2 := by show ((w.alloc A).alloc B).heap.size = _; simp
  rcases h with h | h
  · have h1 : b' ≠ ph := fun hh => ho (by rw [h, hh]; rfl)
    rcases hV with ⟨h2, _⟩ | ⟨b, rest, h2, h3, h4, h5⟩
    · rw [h] at h2; simp at h2
    · rw [h] at h2; simp at h2; exact ⟨h1, by omega, .inl (by omega)⟩
  · omega
theorem app_heap {w w1 : World} {A B o : Obj} {ph b' : Nat} (O : Oth b' ((w.alloc A).alloc B).drew.heap.size ((w.alloc A).alloc B).drew w1) (h : w.heap[ph]? = some o) (hph : ph < w.heap.size) (hb : b' ≠ ph) : w1.heap[ph]? = some o := by
  have e : ((w.alloc A).alloc B).drew.heap.size = w.heap.size + 2 := by show ((w.alloc A).alloc B).heap.size = _; simp
  rw [O.block ph (by omega) (Ne.symm hb)]
  show ((w.alloc A).alloc B).heap[ph]? = _
  rw [Below.heap_alloc _ _ _ (by simp; omega), Below.heap_alloc _ _ _ hph, h]
theorem app_cell {w w1 : World} {A B : Obj} {ph b' : Nat} {v : Value} {P1 P2 : Prop} (O : Oth b' ((w.alloc A).alloc B).drew.heap.size ((w.alloc A).alloc B).drew w1) (h : w.heap[ph]? = some (.cells #[v] 24 (0, 0))) (hph : ph < w.heap.size) (hb : b' ≠ ph ∧ P1 ∧ P2) :
    w1.cell? ⟨ph, 0, none⟩ = some v := by rw [cell_of_row w1 ph 0 _ 24 _ (app_heap O h hph hb.1)]; rfl
theorem app_free {w w1 : World} {A B : Obj} {ph b' : Nat} {v : Value} {P1 P2 : Prop} (O : Oth b' ((w.alloc A).alloc B).drew.heap.size ((w.alloc A).alloc B).drew w1) (h : w.heap[ph]? = some (.cells #[v] 24 (0, 0))) (hph : ph < w.heap.size) (hb : b' ≠ ph ∧ P1 ∧ P2) :
    w1.frozen? ⟨ph, 0, none⟩ = false := frozen_of_row w1 ph 0 _ 24 (app_heap O h hph hb.1)

theorem pw_made {w w1 : World} {ph base b : Nat} {xs rest : List (Int × Int)} {s : Int × Int} {v : Value} {B : Obj}
    (a1 : RowS w1 b ((xs ++ [s]) ++ rest)) (a2 : base ≤ b) (a3 : b < w1.heap.size)
    (a4 : Oth b ((w.alloc (.cells #[.int .i64 s.1, .int .u64 s.2, .pointer none] 29)).alloc B).drew.heap.size ((w.alloc (.cells #[.int .i64 s.1, .int .u64 s.2, .pointer none] 29)).alloc B).drew w1)
    (hb : b ≠ ph ∧ b ≠ w.heap.size ∧ (b < w.heap.size ∨ b = w.heap.size + 2)) (hc : w.heap[ph]? = some (.cells #[v] 24 (0, 0))) (hph : ph < w.heap.size) (hbp : base ≤ ph) :
    PW w ph base b xs rest s (w1.setCell ⟨ph, 0, none⟩ (.slice (some ⟨b, 0, none⟩) (xs.length + 1) (xs.length + (rest.length + 1)))) := by
  have e : ((w.alloc (.cells #[.int .i64 s.1, .int .u64 s.2, .pointer none] 29)).alloc B).drew.heap.size = w.heap.size + 2 := by show ((w.alloc _).alloc B).heap.size = _; simp
  have hz := a4.size
  have hs : (w1.setCell ⟨ph, 0, none⟩ (.slice (some ⟨b, 0, none⟩) (xs.length + 1) (xs.length + (rest.length + 1)))).heap.size = w1.heap.size := by simp [World.setCell]
  refine ⟨?_, ?_, ?_, ?_, ⟨by rw [hs]; exact a3, by rw [hs]; omega⟩, a2, hb.1, hb.2.1⟩
  · unfold RowS; rw [Below.heap_setCell _ _ _ _ hb.1]; exact a1
  · unfold HVar; rw [heap_setCell_same _ ph 0 _ 24 _ (app_heap a4 hc hph hb.1)]; rfl
  · unfold BoxS
    rw [Below.heap_setCell _ _ _ _ (by show w.heap.size ≠ ph; omega), a4.block _ (by omega) (Ne.symm hb.2.1)]
    exact heap_alloc2_old _ _ _
  · refine ⟨a4.os, a4.tape, a4.output, by rw [hs]; omega, fun k hk => ?_⟩
    rw [Below.heap_setCell _ _ _ _ (by show k ≠ ph; omega), a4.block k (by omega) (by omega)]
    show ((w.alloc _).alloc B).heap[k]? = _
    rw [Below.heap_alloc _ _ _ (by simp; omega), Below.heap_alloc _ _ _ (by omega)]
theorem BoxS.oth {w w' : World} {b N B : Nat} {s : Int × Int} (h : BoxS w B s) (O : Oth b N w w') (hB : B < N) (hn : b ≠ B) : BoxS w' B s := (O.block B hB (Ne.symm hn)).trans h

theorem push_end {w wc wr : World} {ph base b k : Nat} {xs zs rest : List (Int × Int)} {s : Int × Int} (P : PW w ph base b xs rest s wc) (I : UpInv xs s zs k) (R : RowS wr b (zs ++ rest)) (O : Oth b wc.heap.size wc wr)
    (he : 1 ≤ k → ltE s (gE zs ((k - 1) / 2)) = false) :
    ∃ ys, HV (((wr.setCell ⟨b, k * 3, none⟩ (.int .i64 s.1)).setCell ⟨b, k * 3 + 1, none⟩ (.int .u64 s.2)).setCell ⟨b, k * 3 + 2, none⟩ (.pointer none)) ph base ys ∧ ys.Perm (xs ++ [s]) ∧ HeapFrom 0 ys ∧
      Below base w (((wr.setCell ⟨b, k * 3, none⟩ (.int .i64 s.1)).setCell ⟨b, k * 3 + 1, none⟩ (.int .u64 s.2)).setCell ⟨b, k * 3 + 2, none⟩ (.pointer none)) := by
  have E := up_end I he
  have hR := R.setL k s I.lt
  have hO := ((O.set (k * 3) (.int .i64 s.1)).set (k * 3 + 1) (.int .u64 s.2)).set (k * 3 + 2) (.pointer none)
  have hlt := P.lt
  have hge := P.ge
  have hpb := P.bel
  have hphs : ph < wc.heap.size := by
    have := P.var
    unfold HVar at this
    exact (Array.getElem?_eq_some_iff.1 this).1
  have hsz := hO.size
  refine ⟨zs.set k s, ⟨_, (hO.block ph hphs (Ne.symm hge.2.1)).trans P.var, .inr ⟨b, rest, ?_, hge.1, by omega, hR⟩, ?_⟩, E.2, E.1, ?_⟩
  · have hl := I.len
    simp [hl]; omega
  · show some b ≠ some ph
    intro h; exact hge.2.1 (Option.some.inj h)
  · refine hpb.trans ⟨hO.os, hO.tape, hO.output, hO.size, fun i hi => hO.block i ?_ (by omega)⟩
    omega

set_option maxHeartbeats 1000000 in
theorem push_any (ph base : Nat) (xs : List (Int × Int)) (s : Int × Int) (w : World) (hph : ph < w.heap.size) (hbp : base ≤ ph) (hlim : xs.length < 4096) (hv : HV w ph base xs) (hh : HeapFrom 0 xs) :
    Calls Yba.prog 11 #[.pointer (some ⟨ph, 0, none⟩), .agg #[.int .i64 s.1, .int .u64 s.2, .pointer none]] w fun e w' =>
      e = .returned (.tuple #[]) ∧ ∃ ys, HV w' ph base ys ∧ ys.Perm (xs ++ [s]) ∧ HeapFrom 0 ys ∧ Below base w w' := by
  obtain ⟨v, hcell, hV, hown⟩ := hv
  have HH : Hid (HeapFrom 0 xs) := hh
  have HC : Hid (w.heap[ph]? = some (.cells #[v] 24 (0, 0))) := hcell
  have HVV : Hid (HeapV w base v xs) := hV
  have HO : Hid (v.ownBlock ≠ some ph) := hown
  have c0 : w.cell? ⟨ph, 0, none⟩ = some v := by rw [cell_of_row w ph 0 _ 24 _ hcell]; rfl
  have g0 : w.frozen? ⟨ph, 0, none⟩ = false := frozen_of_row w ph 0 _ 24 hcell
  have hne : ph ≠ w.heap.size := by omega
  have hne2 : ph ≠ w.heap.size + 1 := by omega
  clear hh hcell hV hown
  go_enter Yba.func11, Yba.ntmps11
  go_upto_region 1 with fail
  go_cut [] (fun wx => ∃ b rest, PW w ph base b xs rest s wx)
  case first =>
    go_region_law ((refine step_appS (by rfl) (.tmp 10) (.tmp 12) (by rfl) base (w.heap.size + 1) v xs s (by rfl) (by rfl) ?_ ?_ hlim ?_ ?_; exact HVV.out.below (two_new w _ _); exact heap_alloc2_new _ _ _; exact two_size w _ _ (by omega); intro b' rest' w1 a1 a2 a3 a4 a5; have hb' := app_block HVV.out HO.out a5 hph; have c1 := app_cell a4 HC.out hph hb'; have g1 := app_free a4 HC.out hph hb'))
    all_goals go_wp2
    all_goals go_meet
    all_goals exact ⟨b', rest', pw_made a1 a2 a3 a4 hb' HC.out hph hbp⟩
  case rest =>
    obtain ⟨b, rest, P⟩ := hcut
    have HP : Hid (PW w ph base b xs rest s wc) := P
    have v0 := P.var.cell
    clear P c0 g0 hne2 HVV HC HO
    go_wp2
    go_loopw [5] (fun i wr => ∃ (k : Nat) (zs : List (Int × Int)), i = .int .i64 k ∧ UpInv xs s zs k ∧ RowS wr b (zs ++ rest) ∧ Oth b wc.heap.size wc wr) (fun i _ => (intOf i).toNat)
    case atStart => exact ⟨xs.length, xs ++ [s], by go_num, up_start s HH.out, HP.out.row, Oth.refl _ _ _⟩
    case round =>
      obtain ⟨k, zs, rfl, I, R, O⟩ := hrel
      have HL : Hid (zs.length = xs.length + 1) := I.len
      have hk : k < xs.length + 1 := by have := I.lt; have := I.len; omega
      have bx := HP.out.box.oth O HP.out.lt.2 HP.out.ge.2.2
      have x := bx.cells
      have f := R.free
      by_cases h0 : 0 < k
      · go_upto_region 5 with fail
        go_cut [6] (fun p wx => p = .int .i64 (((k - 1) / 2 : Nat) : Int) ∧ wx = wr)
        case first =>
          go_wp2
          go_meet
          case rel => exact ⟨val_int (by omega), rfl⟩
        case rest =>
          obtain ⟨rfl, rfl⟩ := hcut
          have hp : (k - 1) / 2 < k := by omega
          obtain ⟨P, hP⟩ : ∃ P, P = (k - 1) / 2 := ⟨_, rfl⟩
          rw [← hP] at hp ⊢
          have HPP : Hid (P = (k - 1) / 2) := hP
          clear hP
          have r := R.cellsL P (by have := HL.out; omega)
          have i1 : (0 : Int) ≤ (P : Int) := by omega
          have i2 : (P : Int) < (xs.length : Int) + 1 := by omega
          go_upto_region 6 with fail
          go_cut [32] (fun t wx => t = .bool (!ltE s (gE zs P)) ∧ Below wc.heap.size wc wx)
          case first =>
            generalize hrv : gE zs P = rv at r
            have HRV : Hid (gE zs P = rv) := hrv
            clear hrv
            go_region_held3 (fun w' => w'.cell? ⟨b, P * 3, none⟩ = some (.int .i64 rv.1) ∧ w'.cell? ⟨b, P * 3 + 1, none⟩ = some (.int .u64 rv.2) ∧ w'.cell? ⟨b, P * 3 + 2, none⟩ = some (.pointer none) ∧
                w'.cell? ⟨w.heap.size, 0, none⟩ = some (.int .i64 s.1) ∧ w'.cell? ⟨w.heap.size, 1, none⟩ = some (.int .u64 s.2) ∧ w'.cell? ⟨w.heap.size, 2, none⟩ = some (.pointer none))
              (first | exact ⟨r.1, r.2.1, r.2.2, x.1, x.2.1, x.2.2⟩ | exact keep6 (by assumption) (by assumption)) ((go_at_call 24; refine (before_raw _ _ _ _ _).mono ?_; rintro e w1 ⟨rfl, hb1⟩))
            go_wp2
            go_meet
            case rel => exact ⟨by rw [HRV.out], (Below.refl _ _).drew.trans hb1⟩
          case rest =>
            obtain ⟨rfl, hB⟩ := hcut
            have hbs := O.size
            have hbl := HP.out.lt
            have R2 := below_row R hB (by omega)
            have O2 := O.below (hB.mono hbs)
            have bx2 := HP.out.box.oth O2 HP.out.lt.2 HP.out.ge.2.2
            have x2 := bx2.cells
            have f2 := R2.free
            have q2 := R2.cellsL k (by have := HL.out; omega)
            clear r x f bx
            by_cases hlt : ltE s (gE zs P) = true
            · have r2 := R2.cellsL P (by have := HL.out; omega)
              have hnl : (!ltE s (gE zs P)) = false := by rw [hlt]; rfl
              rw [hnl]
              have HU : Hid (UpInv xs s (zs.set k (gE zs P)) P) := by
                have := up_step I h0 (by rw [← HPP.out]; exact hlt)
                rw [← HPP.out] at this
                exact this
              have HR3 := R2.setL k (gE zs P) (by have := HL.out; omega)
              have HO3 := ((O2.set (k * 3) (.int .i64 (gE zs P).1)).set (k * 3 + 1) (.int .u64 (gE zs P).2)).set (k * 3 + 2) (.pointer none)
              have hne3 : P ≠ k := by omega
              generalize gE zs P = rv at *
              clear hlt hnl R O
              go_wp2
              go_roundw
              case rel => exact ⟨P, _, rfl, HU.out, HR3, HO3⟩
              case measure => simp [intOf]; omega
            · have hlt : ltE s (gE zs P) = false := by simpa using hlt
              have hnl : (!ltE s (gE zs P)) = true := by rw [hlt]; rfl
              rw [hnl]
              have E := push_end HP.out I R2 O2 (fun _ => by rw [← HPP.out]; exact hlt)
              clear hlt hnl
              go_wp2
              go_end0
              exact ⟨rfl, E⟩
      · obtain ⟨r0, r1, r2⟩ := R.cellsL k (by have := HL.out; omega)
        have E := push_end HP.out I R O (fun h => by omega)
        go_wp2
        go_end0
        exact ⟨rfl, E⟩
end Go.Proofs.Ybulkboha
