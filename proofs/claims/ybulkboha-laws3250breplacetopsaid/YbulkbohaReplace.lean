import Derived.Test.YbulkbohaPush
import Derived.Test.YbulkbohaAppItems
import Derived.Test.YbulkbohaHeapSort
namespace Go.Proofs.Ybulkboha
open Go.RowKit
set_option linter.unusedVariables false

set_option maxHeartbeats 400000 in
theorem rt_long (a0 : Option Addr) (n cap : Nat) (s1 s2 : Int) (w : World) (h : 1024 < n) (hm : n ≤ 9223372036854775807) :
    Calls Yba.prog 4 #[.slice a0 n cap, .agg #[.int .i64 s1, .int .u64 s2]] w fun e w' => e = .returned (.bool true) ∧ Below w.heap.size w w' := by
  have h' : (1024 : Int) < (n : Int) := by omega
  go_enter Yba.func4, Yba.ntmps4
  go_wp2
  go_ret
  exact ⟨rfl, (Below.refl _ _).alloc (Nat.le_refl _) _⟩
set_option maxHeartbeats 400000 in
theorem rt_none (a0 : Option Addr) (cap : Nat) (s1 s2 : Int) (w : World) :
    Calls Yba.prog 4 #[.slice a0 0 cap, .agg #[.int .i64 s1, .int .u64 s2]] w fun e w' => e = .returned (.bool true) ∧ Below w.heap.size w w' := by
  go_enter Yba.func4, Yba.ntmps4
  go_wp2
  go_ret
  exact ⟨rfl, (Below.refl _ _).alloc (Nat.le_refl _) _⟩

/-- stage 1: the heap hs behind the variable N + 1, the box of s at N. -/
structure R1 (w : World) (s : Int × Int) (hs : List (Int × Int)) (wx : World) : Prop where
  hv : HV wx (w.heap.size + 1) (w.heap.size + 1) hs
  box : BoxI wx w.heap.size s
  bel : Below w.heap.size w wx
  lt : w.heap.size + 1 < wx.heap.size
theorem HV.below {w w' : World} {ph base : Nat} {xs : List (Int × Int)} (h : HV w ph base xs) (k : Below w.heap.size w w') (hp : ph < w.heap.size) : HV w' ph base xs := by
  obtain ⟨v, h1, h2, h3⟩ := h
  exact ⟨v, (k.block ph hp).trans h1, h2.below k, h3⟩
theorem R1.below {w wx wy : World} {s : Int × Int} {hs : List (Int × Int)} (h : R1 w s hs wx) (k : Below wx.heap.size wx wy) : R1 w s hs wy :=
  ⟨h.hv.below k h.lt, h.box.below k (by have := h.lt; omega), h.bel.trans (k.mono (by have := h.lt; omega)), by have := k.size; have := h.lt; omega⟩

theorem r1_start (w : World) (s : Int × Int) : R1 w s [] ((w.alloc (.cells #[.int .i64 s.1, .int .u64 s.2] 32)).alloc (.cells #[.slice none 0 0] 24)) := by
  refine ⟨⟨.slice none 0 0, ?_, .inl ⟨rfl, rfl⟩, by intro h; cases h⟩, ?_, ((Below.refl _ _).alloc (Nat.le_refl _) _).alloc (by simp) _, by simp⟩
  · have := heap_alloc_new (w.alloc (.cells #[.int .i64 s.1, .int .u64 s.2] 32)) (.cells #[.slice none 0 0] 24)
    simpa using this
  · unfold BoxI; rw [Below.heap_alloc _ _ _ (by simp)]; exact heap_alloc_new _ _

theorem src_drop {w : World} {M n : Nat} {zs : List (Int × Int)} (h : RowI w M zs) (hn : zs.length = n) : SrcI w (if n = 1 then some ⟨M, 0, none⟩ else some ⟨M, 2, none⟩) (zs.drop 1) := by
  by_cases h1 : n = 1
  · exact .inl (List.drop_eq_nil_of_le (by omega))
  · rw [if_neg h1]
    refine .inr ⟨M, 2, rfl, fun j hj => ?_⟩
    rw [List.length_drop] at hj
    have := h.cells (j + 1) (by omega)
    have e : gE (zs.drop 1) j = gE zs (j + 1) := by rw [gE_eq (by rw [List.length_drop]; exact hj), gE_eq (by omega), List.getElem_drop]; congr 1; omega
    rw [e, show 2 + j * 2 = (j + 1) * 2 by omega]
    exact this
theorem src_box {w : World} {B : Nat} {s : Int × Int} (h : BoxI w B s) : SrcI w (some ⟨B, 0, none⟩) [s] := by
  refine .inr ⟨B, 0, rfl, fun j hj => ?_⟩
  have : j = 0 := by simpa using hj
  subst this
  exact h.cells
theorem zrow_last (n : Nat) (h : 0 < n) : (zrow n).drop (n - 1) = [(0, 0)] := by
  unfold zrow
  rw [List.drop_replicate, show n - (n - 1) = 1 by omega]
  rfl
/-- stage 2: the heap's row in block b, its variable at N + 1, the wanted order in block M. -/
structure R2 (w : World) (M b n C : Nat) (row ws : List (Int × Int)) (wx : World) : Prop where
  row : RowS wx b row
  var : HVar wx (w.heap.size + 1) b n C
  want : RowI wx M ws
  bel : Below w.heap.size w wx
  lt : w.heap.size + 1 < wx.heap.size ∧ b < wx.heap.size ∧ M < wx.heap.size
  ne : w.heap.size + 1 < b ∧ b < M
theorem R2.below {w wx wy : World} {M b n C : Nat} {row ws : List (Int × Int)} (h : R2 w M b n C row ws wx) (k : Below wx.heap.size wx wy) : R2 w M b n C row ws wy :=
  ⟨below_row h.row k h.lt.2.1, (k.block _ h.lt.1).trans h.var, below_rowI h.want k h.lt.2.2, h.bel.trans (k.mono (by have := h.lt; omega)), by have := k.size; have := h.lt; omega, h.ne⟩
theorem R2.oth {w wx wy : World} {M b n C : Nat} {row row' ws : List (Int × Int)} (h : R2 w M b n C row ws wx) (R : RowS wy b row') (O : Oth b wx.heap.size wx wy) : R2 w M b n C row' ws wy := by
  have hn := h.ne
  have hl := h.lt
  have hz := O.size
  exact ⟨R, (O.block _ hl.1 (by omega)).trans h.var, (O.block _ hl.2.2 (by omega)).trans h.want, h.bel.trans ⟨O.os, O.tape, O.output, O.size, fun k hk => O.block k (by omega) (by omega)⟩, by omega, hn⟩
theorem r2_start {w wc w5 : World} {s : Int × Int} {hs ws : List (Int × Int)} {n : Nat} (L : R1 w s hs wc) (hl : hs.length = n) (hn : 0 < n) (S : SW wc ws w5) : ∃ b C rest, R2 w wc.heap.size b n C (hs ++ rest) ws w5 := by
  obtain ⟨v, h1, h2, h3⟩ := L.hv
  rcases h2 with ⟨_, h⟩ | ⟨b, rest, rfl, k1, k2, k3⟩
  · rw [h] at hl; simp at hl; omega
  · have hb : b ≠ w.heap.size + 1 := fun e => h3 (by rw [e]; rfl)
    have hlt := L.lt
    have hS := S.lt
    refine ⟨b, (hs ++ rest).length, rest, below_row k3 S.bel k2, ?_, S.row, L.bel.trans (S.bel.mono (by omega)), by omega, by omega, k2⟩
    exact hl ▸ (S.bel.block _ hlt).trans h1
theorem keep3o {w w1 : World} {b : Nat} (O : Oth b w.heap.size w w1) {p1 p2 p3 : Addr} {v1 v2 v3 : Value}
    (h : w.cell? p1 = some v1 ∧ w.cell? p2 = some v2 ∧ w.cell? p3 = some v3) (n1 : p1.block ≠ b) (n2 : p2.block ≠ b) (n3 : p3.block ≠ b) :
    w1.cell? p1 = some v1 ∧ w1.cell? p2 = some v2 ∧ w1.cell? p3 = some v3 := by
  have k : ∀ p v, p.block ≠ b → w.cell? p = some v → w1.cell? p = some v := fun p v hn h => (O.cell (block_lt_of_cell h) hn).trans h
  exact ⟨k _ _ n1 h.1, k _ _ n2 h.2.1, k _ _ n3 h.2.2⟩
theorem keep7 {w w1 : World} (hb : Below w.heap.size w w1) {p1 p2 p3 p4 p5 p6 p7 : Addr} {v1 v2 v3 v4 v5 v6 v7 : Value}
    (h : w.cell? p1 = some v1 ∧ w.cell? p2 = some v2 ∧ w.cell? p3 = some v3 ∧ w.cell? p4 = some v4 ∧ w.cell? p5 = some v5 ∧ w.cell? p6 = some v6 ∧ w.cell? p7 = some v7) :
    w1.cell? p1 = some v1 ∧ w1.cell? p2 = some v2 ∧ w1.cell? p3 = some v3 ∧ w1.cell? p4 = some v4 ∧ w1.cell? p5 = some v5 ∧ w1.cell? p6 = some v6 ∧ w1.cell? p7 = some v7 := by
  have k : ∀ p v, w.cell? p = some v → w1.cell? p = some v := fun p v h => (hb.cell (block_lt_of_cell h)).trans h
  exact ⟨k _ _ h.1, k _ _ h.2.1, k _ _ h.2.2.1, k _ _ h.2.2.2.1, k _ _ h.2.2.2.2.1, k _ _ h.2.2.2.2.2.1, k _ _ h.2.2.2.2.2.2⟩
/-- stage 3: the wanted order in block M, what was got in block M'. -/
structure R3 (w : World) (M M' : Nat) (ws : List (Int × Int)) (wx : World) : Prop where
  want : RowI wx M ws
  got : RowI wx M' ws
  bel : Below w.heap.size w wx
theorem replace_perm {hs xs zs : List (Int × Int)} {s : Int × Int} (h1 : hs.Perm xs) (h2 : zs.Perm xs) (ho : SortedE zs) (hh : HeapFrom 0 hs) (hl : 0 < xs.length) : (hs.set 0 s).Perm (zs.drop 1 ++ [s]) := by
  have hz : 0 < zs.length := by rw [h2.length_eq]; exact hl
  have hp : hs.Perm (zs.drop 0) := by rw [List.drop_zero]; exact h1.trans h2.symm
  have hl1 : hs.length = xs.length := h1.length_eq
  match hs, hl1, hh, hp with
  | [], hl1, _, _ => simp at hl1; omega
  | x :: t, _, hh, hp =>
    have hr : t.Perm (zs.drop (0 + 1)) := pop_rest ho hz hp hh (List.Perm.refl _)
    rw [List.set_cons_zero]
    exact (List.Perm.cons s hr).trans (List.perm_append_comm (l₁ := [s]))
theorem drop_one (ts : List (Int × Int)) (s : Int × Int) : (ts ++ [s]) ++ List.drop 1 [((0 : Int), (0 : Int))] = ts ++ [s] := by simp
theorem lt_of_alloc {w w' : World} {o : Obj} (h : w'.heap.size = (w.alloc o).heap.size) : w.heap.size < w'.heap.size := by rw [h]; simp
theorem lt_of_alloc2 {w' wx : World} {N : Nat} {o : Obj} (h : w'.heap.size = (wx.alloc o).heap.size) (hl : N < wx.heap.size) : N < w'.heap.size := by rw [h]; simp; omega
theorem own_below {w w' : World} {o : Obj} (O : Oth w.heap.size (w.alloc o).heap.size (w.alloc o) w') : Below w.heap.size w w' := by
  have hz := O.size
  have e : (w.alloc o).heap.size = w.heap.size + 1 := by simp
  exact ((Below.refl _ _).alloc (Nat.le_refl _) o).trans ⟨O.os, O.tape, O.output, O.size, fun k hk => O.block k (by omega) (by omega)⟩
theorem own_below2 {w wx w' : World} {o : Obj} (h : Below w.heap.size w wx) (O : Oth w.heap.size (wx.alloc o).heap.size (wx.alloc o) w') (hl : w.heap.size < wx.heap.size) : Below w.heap.size w w' := by
  have e : (wx.alloc o).heap.size = wx.heap.size + 1 := by simp
  exact (h.alloc (by omega) o).trans ⟨O.os, O.tape, O.output, O.size, fun k hk => O.block k (by omega) (by omega)⟩

set_option maxHeartbeats 1000000 in
set_option maxRecDepth 100000 in
theorem rt_any (bs off n cap : Nat) (xs : List (Int × Int)) (s : Int × Int) (w : World) (hn : xs.length = n) (hn0 : 0 < n) (hlim : n ≤ 1024)
    (hsrc : ∀ j, j < xs.length → w.cell? ⟨bs, off + j * 2, none⟩ = some (.int .i64 (gE xs j).1) ∧ w.cell? ⟨bs, off + j * 2 + 1, none⟩ = some (.int .u64 (gE xs j).2)) :
    Calls Yba.prog 4 #[.slice (some ⟨bs, off, none⟩) n cap, .agg #[.int .i64 s.1, .int .u64 s.2]] w fun e w' => e = .returned (.bool true) ∧ Below w.heap.size w w' := by
  have HS : Hid (∀ j, j < xs.length → w.cell? ⟨bs, off + j * 2, none⟩ = some (.int .i64 (gE xs j).1) ∧ w.cell? ⟨bs, off + j * 2 + 1, none⟩ = some (.int .u64 (gE xs j).2)) := hsrc
  have HN : Hid (xs.length = n) := hn
  have h' : ¬ (1024 : Int) < (n : Int) := by omega
  have h0' : ((n : Int) == 0) = false := by simp; omega
  clear hsrc hn
  go_enter Yba.func4, Yba.ntmps4
  go_upto_region 5 with fail
  go_cut [5] (fun p wx => p = .pointer (some ⟨w.heap.size + 1, 0, none⟩) ∧ R1 w s [] wx)
  case first =>
    go_wp2
    go_meet
    case rel => exact ⟨rfl, r1_start w s⟩
  case rest =>
    obtain ⟨rfl, L0⟩ := hcut
    have HL0 : Hid (R1 w s [] wc) := L0
    clear L0
    go_wp2
    go_loopw [6] (fun i wr => ∃ (k : Nat) (hs : List (Int × Int)), i = .int .i64 k ∧ k ≤ n ∧ hs.Perm (xs.take k) ∧ HeapFrom 0 hs ∧ R1 w s hs wr) (fun i _ => n - (intOf i).toNat)
    case atStart => exact ⟨0, [], rfl, by omega, List.Perm.refl _, heap_nil 0, HL0.out⟩
    case round =>
      obtain ⟨k, hs, rfl, hkn, hp, hh, L⟩ := hrel
      by_cases hlt : k < n
      · obtain ⟨c0, c1⟩ := HS.out k (by have := HN.out; omega)
        have hbs : bs < w.heap.size := block_lt_of_cell c0
        have s0 := (L.bel.cell (p := ⟨bs, off + k * 2, none⟩) hbs).trans c0
        have s1 := (L.bel.cell (p := ⟨bs, off + k * 2 + 1, none⟩) hbs).trans c1
        have HL : Hid (R1 w s hs wr) := L
        have HPm : Hid (hs.Perm (xs.take k)) := hp
        have HHp : Hid (HeapFrom 0 hs) := hh
        clear c0 c1 L hp hh
        go_wp2_with fail
        refine (sched_raw _ _ _).mono ?_
        rintro e w1 ⟨rfl, hb1⟩
        have HR : Hid (R1 w s hs w1) := HL.out.below hb1
        have HPu : Hid (Calls Yba.prog 11 #[.pointer (some ⟨w.heap.size + 1, 0, none⟩), .agg #[.int .i64 (gE xs k).1, .int .u64 (gE xs k).2, .pointer none]] w1 fun e w' =>
            e = .returned (.tuple #[]) ∧ ∃ ys, ys.Perm (xs.take (k + 1)) ∧ HeapFrom 0 ys ∧ R1 w s ys w') := by
          refine (push_any (w.heap.size + 1) (w.heap.size + 1) hs (gE xs k) w1 HR.out.lt (Nat.le_refl _) (by have := HPm.out.length_eq; rw [List.length_take] at this; omega) HR.out.hv HHp.out).mono ?_
          rintro e w2 ⟨rfl, ys, v2, p2, h2, b2⟩
          refine ⟨rfl, ys, ?_, h2, v2, HR.out.box.below b2 (by omega), HR.out.bel.trans (b2.mono (by omega)), by have := b2.size; have := HR.out.lt; omega⟩
          have e : xs.take (k + 1) = xs.take k ++ [gE xs k] := by
            rw [gE_eq (by have := HN.out; omega), List.take_succ_eq_append_getElem (by have := HN.out; omega)]
          rw [e]
          exact p2.trans (List.Perm.append_right _ HPm.out)
        go_wp2_with (go_at_call 11; refine HPu.out.mono ?_; rintro e w2 ⟨rfl, ys, p2, h2, L2⟩)
        go_roundw
        case rel => exact ⟨k + 1, ys, by go_num, by omega, p2, h2, L2⟩
        case measure => simp [intOf]; omega
      · have hk : k = n := by omega
        have HPm : Hid (hs.Perm xs) := by
          show hs.Perm xs
          rw [hk, List.take_of_length_le (by have := HN.out; omega)] at hp
          exact hp
        have HHp : Hid (HeapFrom 0 hs) := hh
        have HL : Hid (R1 w s hs wr) := L
        have HSr : Hid (SrcI wr (some ⟨bs, off, none⟩) xs) := .inr ⟨bs, off, rfl, fun j hj => by
          obtain ⟨c0, c1⟩ := HS.out j hj
          exact ⟨(L.bel.cell (p := ⟨bs, off + j * 2, none⟩) (block_lt_of_cell c0)).trans c0, (L.bel.cell (p := ⟨bs, off + j * 2 + 1, none⟩) (block_lt_of_cell c1)).trans c1⟩⟩
        clear hk hp hh L
        go_wp2_with fail
        refine (sorted_any (some ⟨bs, off, none⟩) n cap xs wr HN.out (by omega) HSr.out).mono ?_
        rintro e w2 ⟨rfl, zs, S2, P2, O2⟩
        have hmk := fun wx => make_items0 wx n (by omega)
        have HM : Hid (R1 w s hs w2 ∧ RowI w2 wr.heap.size zs ∧ wr.heap.size < w2.heap.size) := ⟨HL.out.below S2.bel, S2.row, S2.lt⟩
        have HPz : Hid (zs.Perm xs) := P2
        have HOz : Hid (SortedE zs) := O2
        clear S2 P2 O2 HSr HL
        go_upto_region 12 with fail
        go_cut [8] (fun v wx => v = .slice (some ⟨w2.heap.size, 0, none⟩) (n - 1) n ∧ Below w2.heap.size w2 wx ∧ RowI wx w2.heap.size (zs.drop 1 ++ [(0, 0)]) ∧ w2.heap.size < wx.heap.size)
        case first =>
          have HT2 : Hid ((zs.drop 1).length = n - 1) := by show _ = _; rw [List.length_drop, HPz.out.length_eq, HN.out]
          have HT3 : Hid (SrcI (w2.alloc (.cells (ic (zrow n)).toArray 32)) (if n = 1 then some ⟨wr.heap.size, 0, none⟩ else some ⟨wr.heap.size, 2, none⟩) (zs.drop 1)) :=
            src_drop (below_rowI HM.out.2.1 ((Below.refl _ _).alloc (Nat.le_refl _) _) HM.out.2.2) (by rw [HPz.out.length_eq, HN.out])
          have HT4 : Hid (n - 1 ≤ (zrow n).length) := by show _ ≤ _; rw [zrow_length]; exact Nat.sub_le _ _
          have HT5 : Hid (0 + (n - 1) ≤ n) := by show _ ≤ _; omega
          obtain ⟨ts, hts⟩ : ∃ ts, ts = zs.drop 1 := ⟨_, rfl⟩
          rw [← hts] at HT2 HT3
          have HTS : Hid (ts = zs.drop 1) := hts
          clear hts
          go_wp2_with (at_builtin; refine wpList_appI rfl (.tmp 38) (.tmp 40) rfl w2.heap.size 0 n (n - 1) (n - 1) _ [] ts (zrow n) rfl (by rfl) (heap_alloc_new _ _) rfl HT2.out HT3.out HT4.out HT5.out ?_; intro w4 q1 q2 q3; rw [zrow_last n hn0, List.nil_append] at q1; generalize (if n = 1 then (some ⟨wr.heap.size, 0, none⟩ : Option Addr) else some ⟨wr.heap.size, 2, none⟩) = adr; have HB4 : Hid (Below w2.heap.size w2 w4) := own_below q2; have hs4 : w2.heap.size < w4.heap.size := lt_of_alloc q3; clear q2 q3; have HQ1 : Hid (RowI w4 w2.heap.size (ts ++ [(0, 0)])) := q1; clear q1)
          go_meet
          case rel => exact ⟨rfl, HB4.out, by rw [← HTS.out]; exact HQ1.out, hs4⟩
        case rest =>
          obtain ⟨rfl, q2, q1, q3⟩ := hcut
          clear hmk
          have bx := (HM.out.1.below q2).box
          have x := bx.cells
          have HQ1 : Hid (RowI wc w2.heap.size (zs.drop 1 ++ [(0, 0)])) := q1
          have HQ2 : Hid (Below w2.heap.size w2 wc) := q2
          clear q1 q2
          go_upto_region 13 with fail
          go_cut [8] (fun v wx => v = .slice (some ⟨w2.heap.size, 0, none⟩) n n ∧ Below w2.heap.size w2 wx ∧ RowI wx w2.heap.size (zs.drop 1 ++ [s]) ∧ w2.heap.size < wx.heap.size)
          case first =>
            have HT2 : Hid ((zs.drop 1).length = n - 1) := by show _ = _; rw [List.length_drop, HPz.out.length_eq, HN.out]
            have HT4 : Hid (1 ≤ [((0 : Int), (0 : Int))].length) := by show _ ≤ _; simp
            have HT5 : Hid (n - 1 + 1 ≤ n) := by show _ ≤ _; omega
            obtain ⟨ts, hts⟩ : ∃ ts, ts = zs.drop 1 := ⟨_, rfl⟩
            rw [← hts] at HT2 HQ1
            have HTS : Hid (ts = zs.drop 1) := hts
            clear hts
            go_wp2_with (at_builtin; refine wpList_appI rfl (.tmp 42) (.tmp 44) rfl w2.heap.size (n - 1) n 1 1 _ ts [s] [(0, 0)] rfl (by rfl) (below_rowI HQ1.out ((Below.refl _ _).alloc (Nat.le_refl _) _) q3) HT2.out rfl (src_box (heap_alloc_new _ _)) HT4.out HT5.out ?_; intro w4 p1 p2 p3; rw [drop_one] at p1; have HB4 : Hid (Below w2.heap.size w2 w4) := own_below2 HQ2.out p2 q3; have hs4 : w2.heap.size < w4.heap.size := lt_of_alloc2 p3 q3; clear p2 p3; have HP1 : Hid (RowI w4 w2.heap.size (ts ++ [s])) := p1; clear p1)
            go_meet
            case rel => exact ⟨by rw [Nat.sub_add_cancel hn0], HB4.out, by rw [← HTS.out]; exact HP1.out, hs4⟩
          case rest =>
            obtain ⟨rfl, q2, q1, q4⟩ := hcut
            obtain ⟨w3, hw3⟩ : ∃ w3, w3 = wc := ⟨_, rfl⟩
            subst hw3
            have HL3 : Hid (R1 w s hs w3) := HM.out.1.below q2
            have hlz : (zs.drop 1 ++ [s]).length = n := by rw [List.length_append, List.length_drop, HPz.out.length_eq, HN.out]; simp; omega
            have HSt : Hid (∀ cap', Calls Yba.prog 8 #[.slice (some ⟨w2.heap.size, 0, none⟩) n cap'] w3 fun e w' =>
                e = .returned (.slice (some ⟨w3.heap.size, 0, none⟩) n n) ∧ ∃ zs', SW w3 zs' w' ∧ zs'.Perm (zs.drop 1 ++ [s]) ∧ SortedE zs') := fun cap' =>
              sorted_any (some ⟨w2.heap.size, 0, none⟩) n cap' (zs.drop 1 ++ [s]) w3 hlz (by omega) (RowI.src (rest := []) (by rw [List.append_nil]; exact q1))
            clear x bx HQ1 HQ2 q1 q2 hlz q3
            go_wp2_with (go_at_call 8; refine (HSt.out _).mono ?_; rintro e w5 ⟨rfl, ws, S5, P5, O5⟩)
            have hbox := (HL3.out.below S5.bel).box.cells
            have HPw : Hid (ws.Perm (zs.drop 1 ++ [s])) := P5
            have HOw : Hid (SortedE ws) := O5
            have hl : hs.length = n := HPm.out.length_eq.trans HN.out
            obtain ⟨b, C, rest, D5⟩ := r2_start HL3.out hl hn0 S5
            have HD5 : Hid (R2 w w3.heap.size b n C (hs ++ rest) ws w5) := D5
            have v0 := D5.var.cell
            have HDn : Hid (∀ W, RowS W b (hs ++ rest) → b < W.heap.size → Calls Yba.prog 12 #[.slice (some ⟨b, 0, none⟩) n C, .agg #[.int .i64 s.1, .int .u64 s.2, .pointer none], .int .i64 0] W fun e w' =>
                e = .returned (.tuple #[]) ∧ ∃ ys, RowS w' b (ys ++ rest) ∧ ys.Perm (hs.set 0 s) ∧ HeapFrom 0 ys ∧ Oth b W.heap.size W w') := fun W hr hb =>
              down_raw b n C hs rest s.1 s.2 0 W hb hl (by omega) hn0 hr (heap_mono HHp.out (by omega))
            have hnb : w.heap.size ≠ b := by have := D5.ne; omega
            have hnb1 : w.heap.size + 1 ≠ b := by have := D5.ne; omega
            clear HSt S5 P5 O5 D5 hl
            go_cut [] (fun wx => ∃ ys, ys.Perm (hs.set 0 s) ∧ HeapFrom 0 ys ∧ R2 w w3.heap.size b n C (ys ++ rest) ws wx)
            case first =>
              go_region_held3 (fun w' => w'.cell? ⟨w.heap.size + 1, 0, none⟩ = some (.slice (some ⟨b, 0, none⟩) n C) ∧ w'.cell? ⟨w.heap.size, 0, none⟩ = some (.int .i64 s.1) ∧ w'.cell? ⟨w.heap.size, 1, none⟩ = some (.int .u64 s.2))
                (first | exact ⟨v0, hbox.1, hbox.2⟩ | exact keep3 (by assumption) (by assumption) | exact keep3o (by assumption) (by assumption) hnb1 hnb hnb)
                ((first | (go_at_call 6; refine (sched_raw _ _ _).mono ?_; rintro e w6 ⟨rfl, hb6⟩) | (go_at_call 12; refine (HDn.out _ ?_ ?_).mono ?_; exact ((HD5.out.below ((Below.refl _ _).drew.trans hb6)).row); exact ((HD5.out.below ((Below.refl _ _).drew.trans hb6)).lt.2.1); rintro e w7 ⟨rfl, ys, r7, p7, h7, o7⟩)))
              go_wp2
              go_meet
              case rel => exact ⟨ys, p7, h7, (HD5.out.below ((Below.refl _ _).drew.trans hb6)).oth r7 o7⟩
            case rest =>
              obtain ⟨ys, py, hy, D6⟩ := hcut
              obtain ⟨w8, hw8⟩ : ∃ w8, w8 = wc := ⟨_, rfl⟩
              subst hw8
              have HYl : Hid (ys.length = n) := by show _ = _; rw [py.length_eq, List.length_set, HPm.out.length_eq, HN.out]
              have HYp : Hid (ys.Perm (hs.set 0 s)) := py
              have HYh : Hid (HeapFrom 0 ys) := hy
              have HD6 : Hid (R2 w w3.heap.size b n C (ys ++ rest) ws w8) := D6
              have v6 := D6.var.cell
              clear v0 hbox py hy D6 HD5 HDn
              go_wp2
              go_loopw [10] (fun i wr => ∃ k : Nat, i = .int .i64 k ∧ 1 ≤ k ∧ R2 w w3.heap.size b n C (ys ++ rest) ws wr) (fun i _ => n - (intOf i).toNat)
              case atStart => exact ⟨1, rfl, by omega, HD6.out⟩
              case round =>
                obtain ⟨k, rfl, hk1, D⟩ := hrel
                have v7 := D.var.cell
                by_cases hkn : k < n
                · obtain ⟨P, hP⟩ : ∃ P, P = (k - 1) / 2 := ⟨_, rfl⟩
                  have r := D.row.cellsL k (by have := HYl.out; omega)
                  have t := D.row.cellsL P (by have := HYl.out; omega)
                  obtain ⟨K, hK⟩ : ∃ K : Int, K = (k : Int) := ⟨_, rfl⟩
                  have i1 : (0 : Int) ≤ K := by omega
                  have i2 : K < (n : Int) := by omega
                  have i3 : (0 : Int) ≤ (P : Int) := by omega
                  have i4 : (P : Int) < (n : Int) := by omega
                  have i7 : IntKind.i64.wrap (K - 1) = K - 1 := by rw [IntKind.wrap_i64]; omega
                  have i8 : IntKind.i64.wrap ((K - 1).tdiv 2) = (P : Int) := by
                    rw [IntKind.wrap_i64, Int.tdiv_eq_ediv_of_nonneg (by omega)]; omega
                  have HT : Hid (ltE (gE ys K.toNat) (gE ys P) = false) := by
                    have := HYh.out k hk1 (by have := HYl.out; omega) (by omega)
                    rw [show K.toNat = k by omega, hP]; exact this
                  rw [show k = K.toNat by omega] at r
                  have HD : Hid (R2 w w3.heap.size b n C (ys ++ rest) ws wr) := D
                  have HK : Hid (K = (k : Int)) := hK
                  generalize gE ys K.toNat = rv at r HT
                  generalize gE ys P = tv at t HT
                  clear hP D
                  go_upto_region 21 with fail
                  go_cut [75] (fun t wx => t = .bool false ∧ R2 w w3.heap.size b n C (ys ++ rest) ws wx)
                  case first =>
                    rw [← hK]
                    clear hK
                    go_region_held3 (fun w' => w'.cell? ⟨w.heap.size + 1, 0, none⟩ = some (.slice (some ⟨b, 0, none⟩) n C) ∧ w'.cell? ⟨b, K.toNat * 3, none⟩ = some (.int .i64 rv.1) ∧ w'.cell? ⟨b, K.toNat * 3 + 1, none⟩ = some (.int .u64 rv.2) ∧ w'.cell? ⟨b, K.toNat * 3 + 2, none⟩ = some (.pointer none) ∧
                        w'.cell? ⟨b, P * 3, none⟩ = some (.int .i64 tv.1) ∧ w'.cell? ⟨b, P * 3 + 1, none⟩ = some (.int .u64 tv.2) ∧ w'.cell? ⟨b, P * 3 + 2, none⟩ = some (.pointer none))
                      (first | exact ⟨v7, r.1, r.2.1, r.2.2, t.1, t.2.1, t.2.2⟩ | exact keep7 (by assumption) (by assumption))
                      ((first | (go_at_call 10; refine (item_raw _ _ _).mono ?_; rintro e w9 ⟨rfl, hb9⟩; have D9 : R2 w w3.heap.size b n C (ys ++ rest) ws w9 := (by first | exact HD.out.below ((Below.refl _ _).drew.trans hb9) | exact D9.below hb9)) | (go_at_call 13; refine (less_raw _ _ _ _ _).mono ?_; rintro e w10 ⟨rfl, hb10⟩; have D10 : R2 w w3.heap.size b n C (ys ++ rest) ws w10 := D9.below hb10)))
                    go_wp2
                    have hK := HK.out
                    subst hK
                    go_meet
                    case rel => exact ⟨val_bool HT.out, D10⟩
                  case rest =>
                    obtain ⟨rfl, D9⟩ := hcut
                    clear hK i7 i8 r t v7
                    go_wp2
                    go_roundw
                    case rel => exact ⟨k + 1, by go_num, by omega, D9⟩
                    case measure => simp [intOf]; omega
                · have HD : Hid (R2 w w3.heap.size b n C (ys ++ rest) ws wr) := D
                  have hmk := fun wx => make_items wx n (by omega)
                  obtain ⟨w11, hw11⟩ : ∃ w11, w11 = wr := ⟨_, rfl⟩
                  subst hw11
                  clear D
                  go_wp2
                  go_loopw [12] (fun i wr => ∃ (k : Nat) (gs : List (Int × Int)), i = .int .i64 k ∧ k ≤ n ∧ gs.length = n ∧ (∀ j, j < k → gE gs j = gE ys j) ∧ SW w11 gs wr) (fun i _ => n - (intOf i).toNat)
                  case atStart => exact ⟨0, zrow n, rfl, by omega, zrow_length n, fun j hj => by omega, ⟨heap_alloc_new _ _, (Below.refl _ _).alloc (Nat.le_refl _) _, by simp⟩⟩
                  case round =>
                    obtain ⟨q, gs, rfl, hqn, hgl, hge, S⟩ := hrel
                    have D := HD.out.below S.bel
                    have v11 := D.var.cell
                    by_cases hq : q < n
                    · have r := D.row.cellsL q (by have := HYl.out; omega)
                      have HX : Hid (∀ j, j < q + 1 → gE (gs.set q (gE ys q)) j = gE ys j) := by
                        intro j hj
                        by_cases e : j = q
                        · subst e; rw [gE_set_same _ (by omega)]
                        · rw [gE_set_ne _ (by omega)]; exact hge j (by omega)
                      have HS2 : Hid (SW w11 gs wr) := S
                      have HG : Hid (gs.length = n) := hgl
                      clear S D hge hgl
                      generalize gE ys q = y at *
                      go_wp2_with (go_at_call 10; refine (item_raw _ _ _).mono ?_; rintro e w12 ⟨rfl, hb12⟩; have S12 : SW w11 gs w12 := HS2.out.below hb12; have c12 := S12.row.cells q (by have := HG.out; omega); have f12 := S12.row.free)
                      go_roundw
                      case rel => exact ⟨q + 1, _, by go_num, by omega, by rw [List.length_set]; exact HG.out, HX.out, S12.set q y (by have := HG.out; omega)⟩
                      case measure => simp [intOf]; omega
                    · have hgy : gs = ys := by
                        apply List.ext_getElem
                        · rw [hgl, HYl.out]
                        · intro j h1 h2
                          have := hge j (by omega)
                          rwa [gE_eq h1, gE_eq h2] at this
                      subst hgy
                      obtain ⟨w14, hw14⟩ : ∃ w14, w14 = wr := ⟨_, rfl⟩
                      subst hw14
                      have HSt : Hid (∀ cap', Calls Yba.prog 8 #[.slice (some ⟨w11.heap.size, 0, none⟩) n cap'] w14 fun e w' =>
                          e = .returned (.slice (some ⟨w14.heap.size, 0, none⟩) n n) ∧ R3 w w3.heap.size w14.heap.size ws w') := by
                        intro cap'
                        refine (sorted_any (some ⟨w11.heap.size, 0, none⟩) n cap' gs w14 HYl.out (by omega) (RowI.src (rest := []) (by rw [List.append_nil]; exact S.row))).mono ?_
                        rintro e w15 ⟨rfl, vs, S15, P15, O15⟩
                        have hvw : vs = ws := sorted_unique O15 HOw.out (P15.trans (HYp.out.trans ((replace_perm HPm.out HPz.out HOz.out HHp.out (by have := HN.out; omega)).trans HPw.out.symm)))
                        subst hvw
                        have D15 := D.below S15.bel
                        exact ⟨rfl, D15.want, S15.row, D15.bel⟩
                      have HWl : Hid (ws.length = n) := by
                        show _ = _
                        rw [HPw.out.length_eq, List.length_append, List.length_drop, HPz.out.length_eq, HN.out]; simp; omega
                      clear S hge hgl D hmk
                      go_wp2_with (go_at_call 8; refine (HSt.out _).mono ?_; rintro e w15 ⟨rfl, R15⟩)
                      have HR15 : Hid (R3 w w3.heap.size w14.heap.size ws w15) := R15
                      clear R15 HSt
                      go_loopw [14] (fun i wr => ∃ k : Nat, i = .int .i64 k ∧ R3 w w3.heap.size w14.heap.size ws wr) (fun i _ => n - (intOf i).toNat)
                      case atStart => exact ⟨0, rfl, HR15.out⟩
                      case round =>
                        obtain ⟨p, rfl, R⟩ := hrel
                        by_cases hp : p < n
                        · have r := R.got.cells p (by have := HWl.out; omega)
                          have t := R.want.cells p (by have := HWl.out; omega)
                          have i1 : (0 : Int) ≤ (p : Int) := by omega
                          have i2 : (p : Int) < (n : Int) := by omega
                          have HR : Hid (R3 w w3.heap.size w14.heap.size ws wr) := R
                          clear R
                          generalize gE ws p = y at r t
                          go_upto_region 32 with fail
                          go_cut [109] (fun t wx => t = .bool false ∧ R3 w w3.heap.size w14.heap.size ws wx)
                          case first =>
                            go_region_held3 (fun w' => w'.cell? ⟨w14.heap.size, p * 2, none⟩ = some (.int .i64 y.1) ∧ w'.cell? ⟨w14.heap.size, p * 2 + 1, none⟩ = some (.int .u64 y.2) ∧
                                w'.cell? ⟨w3.heap.size, p * 2, none⟩ = some (.int .i64 y.1) ∧ w'.cell? ⟨w3.heap.size, p * 2 + 1, none⟩ = some (.int .u64 y.2))
                              (exact ⟨r.1, r.2, t.1, t.2⟩) (fail)
                            go_wp2
                            go_meet
                            case rel => exact ⟨rfl, HR.out.want, HR.out.got, HR.out.bel.drew⟩
                          case rest =>
                            obtain ⟨rfl, R9⟩ := hcut
                            clear r t
                            go_wp2
                            go_roundw
                            case rel => exact ⟨p + 1, by go_num, R9⟩
                            case measure => simp [intOf]; omega
                        · go_wp2
                          go_ret
                          exact ⟨rfl, R.bel⟩
end Go.Proofs.Ybulkboha
