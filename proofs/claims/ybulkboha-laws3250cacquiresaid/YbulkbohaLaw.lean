import Derived.Test.YbulkbohaAft
namespace Go.Proofs.Ybulkboha
open Go.RowKit
set_option linter.unusedVariables false
set_option linter.unusedSimpArgs false

/-- looks whether the operation ahead is an append (a copy): one that is not fails at once. -/
theorem atAppend {P : Program} {ops : Array Oper} {Q : Exit → Act → World → Prop} {d : Option Tmp} {x : Array Operand} {y : Array TypeId} {t : TypeId} {p : String} {e : Array Edge} {g : Option (Nat × Bool)} {rest : List Oper} {a : Act} {w : World}
    (h : wpList P ops Q (⟨d, .call ⟨.builtin .append, x, y⟩, t, p, e, g⟩ :: rest) a w) : wpList P ops Q (⟨d, .call ⟨.builtin .append, x, y⟩, t, p, e, g⟩ :: rest) a w := h
theorem atCopy {P : Program} {ops : Array Oper} {Q : Exit → Act → World → Prop} {d : Option Tmp} {x : Array Operand} {y : Array TypeId} {t : TypeId} {p : String} {e : Array Edge} {g : Option (Nat × Bool)} {rest : List Oper} {a : Act} {w : World}
    (h : wpList P ops Q (⟨d, .call ⟨.builtin .copy, x, y⟩, t, p, e, g⟩ :: rest) a w) : wpList P ops Q (⟨d, .call ⟨.builtin .copy, x, y⟩, t, p, e, g⟩ :: rest) a w := h

set_option maxRecDepth 100000 in
set_option maxHeartbeats 100000000 in
theorem law_is (a0 a1 : Option Addr) (c0 c1 : Nat) (hr qr : List Req) (rq : Req) (page : Int) (ab po : Bool) (w : World) (h0 : hr.length ≤ 1024) (h1 : qr.length ≤ 1024) (hS0 : SrcR w a0 hr) (hS1 : SrcR w a1 qr) :
    Calls Yba.prog 5 #[.slice a0 hr.length c0, .slice a1 qr.length c1, .agg (reqArr rq), .int .i64 page, .bool ab, .bool po] w fun e w' => e = .returned (.bool true) ∧ Below w.heap.size w w' := by
  have HS0 : Hid (SrcR w a0 hr) := hS0
  have HS1 : Hid (SrcR w a1 qr) := hS1
  clear hS0 hS1
  generalize hn0 : hr.length = n0 at *
  generalize hn1 : qr.length = n1 at *
  have HN0 : Hid (hr.length = n0) := hn0
  have HN1 : Hid (qr.length = n1) := hn1
  clear hn0 hn1
  have hd0 : decide ((n0 : Int) > 1024) = false := decide_eq_false (by omega)
  have hd1 : decide ((n1 : Int) > 1024) = false := decide_eq_false (by omega)
  have HT : Hid (∀ w, Calls Yba.prog 14 #[] w fun e w' => e = .returned (.agg #[.map (some (w.heap.size + 1)), .slice none 0 0]) ∧ Below w.heap.size w w' ∧ w'.heap.size = w.heap.size + 2 ∧ w'.heap[w.heap.size + 1]? = some (.map #[] 0)) := tab_is
  go_enter Yba.func5, Yba.ntmps5
  go_wp2_with fail
  with_reducible refine (HT.out _).mono ?_
  rintro e w1 ⟨rfl, hb1, hs1, hm1⟩
  clear HT hd0 hd1
  have e2 : ((w.alloc (.cells (reqArr rq) 45)).alloc (.cells host0 49)).heap.size = w.heap.size + 2 := by simp
  have Hb1 : Hid (Below (w.heap.size + 2) ((w.alloc (.cells (reqArr rq) 45)).alloc (.cells host0 49)) w1) := by
    show Below _ _ _
    have h := hb1
    rw [show ((w.alloc (Obj.cells (reqArr rq) 45)).alloc (Obj.cells #[Value.int IntKind.i64 0, Value.pointer none, Value.int IntKind.i64 0, Value.int IntKind.i64 0, Value.int IntKind.i64 0, Value.int IntKind.i64 0, Value.int IntKind.i64 0, Value.int IntKind.i64 0] 49)) = ((w.alloc (.cells (reqArr rq) 45)).alloc (.cells host0 49)) from rfl, e2] at h
    exact h
  have Hs1 : Hid (w1.heap.size = w.heap.size + 4) := by
    show _ = _
    have h := hs1
    rw [show ((w.alloc (Obj.cells (reqArr rq) 45)).alloc (Obj.cells #[Value.int IntKind.i64 0, Value.pointer none, Value.int IntKind.i64 0, Value.int IntKind.i64 0, Value.int IntKind.i64 0, Value.int IntKind.i64 0, Value.int IntKind.i64 0, Value.int IntKind.i64 0] 49)) = ((w.alloc (.cells (reqArr rq) 45)).alloc (.cells host0 49)) from rfl, e2] at h
    exact h
  have Hm1 : Hid (w1.heap[w.heap.size + 3]? = some (.map #[] 0)) := by
    show _ = _
    have h := hm1
    rw [show ((w.alloc (Obj.cells (reqArr rq) 45)).alloc (Obj.cells #[Value.int IntKind.i64 0, Value.pointer none, Value.int IntKind.i64 0, Value.int IntKind.i64 0, Value.int IntKind.i64 0, Value.int IntKind.i64 0, Value.int IntKind.i64 0, Value.int IntKind.i64 0] 49)) = ((w.alloc (.cells (reqArr rq) 45)).alloc (.cells host0 49)) from rfl, e2] at h
    exact h
  clear hb1 hm1 e2
  go_upto_if 65 with fail
  go_cut [15] from 66 to 73 (fun v wx => ∃ N0 fr, Bas w rq (w.heap.size + 1 + 1 + 2) (w.heap.size + 1) (w.heap.size + 1 + 1 + 1) N0 fr v po wx ∧ wx.heap.size = N0)
  case first => as_aux_lemma =>
    --<A
    cases po with
    | false =>
      go_wp2
      go_meet
      case rel => exact ⟨_, _, bas_plain Hb1.out Hs1.out Hm1.out, by have := Hs1.out; simp [this]⟩
    | true =>
      go_wp2
      go_meet
      case rel => exact ⟨_, _, bas_pool Hb1.out Hs1.out Hm1.out, by have := Hs1.out; simp [this]⟩
    -->A
  case rest => as_aux_lemma =>
    obtain ⟨N0, fr, B0, hN0⟩ := hcut
    obtain ⟨W0, hW0⟩ : ∃ W0, W0 = wc := ⟨_, rfl⟩
    subst hW0
    clear hs1
    have HB0 : Hid (Bas w rq (w.heap.size + 1 + 1 + 2) (w.heap.size + 1) (w.heap.size + 1 + 1 + 1) N0 fr u15 po W0) := B0
    have HW0 : Hid (W0.heap.size = N0) := hN0
    clear B0 Hb1 Hs1 Hm1
    have hmk := fun W => make70_0 W n0 (by omega)
    have hmk2 := fun W => make73_0 W n0 (by omega)
    have HI1 : Hid (Mk N0 N0 n0 (w.heap.size + 1 + 1 + 2) 0 [] W0 ((W0.alloc (.cells (zR n0) 79)).alloc (.cells (zP n0) 80)) ∧ OwnC ((W0.alloc (.cells (zR n0) 79)).alloc (.cells (zP n0) 80)) 1 80 (N0 + 1) 0 n0 (phc [])) := by
      have hN := HW0.out
      have e1 : (W0.alloc (.cells (zR n0) 79)).heap.size = N0 + 1 := by simp [hN]
      have o1 := own70 W0 n0
      have o2 := own73 (W0.alloc (.cells (zR n0) 79)) n0
      rw [hN] at o1
      rw [e1] at o2
      refine ⟨⟨by rw [← hN]; exact ((Below.refl _ _).alloc (Nat.le_refl _) _).alloc (by simp) _, rfl, o1.below ((Below.refl _ _).alloc (Nat.le_refl _) _), by simp, by simp [Far], by simp⟩, o2⟩
    generalize hsb : w.heap.size + 1 + 1 + 2 = sb at *
    generalize hhb : w.heap.size + 1 = hb at *
    generalize hmb : hb + 1 + 1 = mb at *
    have hMk := mk_ends sb
    have HMk : Hid (∀ (q : Req) (W : World), Calls Yba.prog 15 #[.pointer (some ⟨sb, 0, none⟩), .agg #[.int .i16 q.dl, .int .i16 q.ar, .int .i8 q.nu, .bool q.upd, .int .u8 q.ph, .bool q.lend]] W fun e w' => MkEnds W sb q e w') := hMk
    clear hMk
    go_wp2
    go_loopw [16, 17, 82] (fun v16 v17 i wr => ∃ (k : Nat) (es : List Ent), k ≤ n0 ∧ i = .int .i64 k ∧ v16 = .slice (some ⟨N0, 0, none⟩) k n0 ∧ v17 = .slice (some ⟨N0 + 1, 0, none⟩) k n0 ∧ Mk N0 N0 n0 sb k es W0 wr ∧ OwnC wr 1 80 (N0 + 1) k n0 (phc es) ∧ N0 + 2 ≤ wr.heap.size) (fun _ _ i _ => n0 - (intOf i).toNat)
    case atStart => exact ⟨0, [], by omega, rfl, rfl, rfl, HI1.out.1, HI1.out.2, by have := HW0.out; simp [this]⟩
    case round => as_aux_lemma =>
      obtain ⟨k, es, hk, rfl, rfl, rfl, D, DP, hsz⟩ := hrel
      clear hmk hmk2 HI1
      by_cases hlt : k < n0
      · as_aux_lemma => --<B
        obtain ⟨q, hq⟩ : ∃ q, hr[k]? = some q := ⟨_, List.getElem?_eq_getElem (by have := HN0.out; omega)⟩
        have hBr := (HB0.out.on D.bel).bel
        obtain ⟨b, off, ha0, y0, y1, y2, y3, y4, y5⟩ := (HS0.out.below hBr).at hq
        have HD : Hid (Mk N0 N0 n0 sb k es W0 wr) := D
        have HDP : Hid (OwnC wr 1 80 (N0 + 1) k n0 (phc es)) := DP
        clear D DP hBr hq
        subst ha0
        have hbl : b < wr.heap.size := block_lt_of_cell y0
        go_wp2_with fail
        (with_reducible refine (HMk.out q _).mono ?_)
        rintro e w2 ⟨c, rfl, hc, b2, hM⟩
        have z3 : w2.cell? ⟨wr.heap.size, 3, none⟩ = some (.bool q.upd) := b2.keep (by simp)
        have HM2 : Hid (Memb w2 sb (entOf c q) (q.ph.tmod 12) 0 false nilV nilV) := hM
        have HB2 : Hid (Below _ _ w2) := b2
        have HC : Hid (_ < c) := hc
        have HO2 : Hid (∀ A, OwnC (w2.alloc A) 2 79 N0 k n0 (lc es)) := fun A => (((HD.out.hol.below ((Below.refl _ _).alloc (Nat.le_refl _) _)).below b2).below ((Below.refl _ _).alloc (Nat.le_refl _) A))
        have HP2 : Hid (∀ A, OwnC (w2.alloc A) 1 80 (N0 + 1) k n0 (phc es)) := fun A => (((HDP.out.below ((Below.refl _ _).alloc (Nat.le_refl _) _)).below b2).below ((Below.refl _ _).alloc (Nat.le_refl _) A))
        have hN2 : N0 + 2 ≤ w2.heap.size := by have := b2.size; simp at this; omega
        clear y0 y1 y2 y3 y4 y5 b2 hM
        go_wp2_with fail
        (with_reducible refine (mode_is q.upd _).mono ?_)
        rintro e w3 ⟨rfl, rfl⟩
        generalize hmd : (if q.upd = true then (2 : Int) else 1) = md at *
        have HMD : Hid ((if q.upd = true then (2 : Int) else 1) = md) := hmd
        have HQ : Hid (∀ A w4, OwnC w4 2 79 N0 (k + 1) n0 (lc es ++ [.pointer (some ⟨c, 0, none⟩), .int .u8 md]) → Chg (· = N0) (w3.alloc A) w4 → w4.cell? ⟨c, 3, none⟩ = some (.int .u8 (q.ph.tmod 12)) ∧ c < w4.heap.size ∧ ∀ A', OwnC (w4.alloc A') 1 80 (N0 + 1) k n0 (phc es)) := by
          intro A w4 _ c4
          have hcn : N0 + 4 ≤ c := by have := HC.out; simp at this; omega
          have M4 := ((HM2.out.below ((Below.refl _ _).alloc (Nat.le_refl _) A))).chg c4 (by show ¬ c = N0; omega) (by show ¬ c - 1 = N0; omega) (by show ¬ c - 2 = N0; omega)
          refine ⟨?_, M4.lt, fun A' => ((HP2.out A).chg c4 (by omega)).below ((Below.refl _ _).alloc (Nat.le_refl _) _)⟩
          have := M4.cell 3
          exact this
        go_wp2_with (first
          | ((with_reducible refine atAppend ?_); refine wpList_room rfl 70 (.tmp 89) (.tmp 95) rfl Yba.underlying70 Yba.info79 (b := N0) (n := k) (cap := n0) (vs := lc es) rfl (xv := .slice (some ⟨w3.heap.size, 0, none⟩) 1 1) rfl (HO2.out _) (m := 1) (us := [.pointer (some ⟨c, 0, none⟩), .int .u8 md]) (two_src rfl rfl (by simp) (by simp)) (by omega) ?_; intro w4 o4 c4; obtain ⟨d3, hcl, hO4⟩ := HQ.out _ _ o4 c4; have HO4 : Hid _ := hO4; clear hO4)
          | ((with_reducible refine atAppend ?_); refine wpList_room rfl 73 (.tmp 97) (.tmp 102) rfl Yba.underlying73 Yba.info80 (b := N0 + 1) (n := k) (cap := n0) (vs := phc es) rfl (xv := .slice (some ⟨w4.heap.size, 0, none⟩) 1 1) rfl (HO4.out _) (m := 1) (us := [.int .u8 (q.ph.tmod 12)]) (one_src73 rfl (by simp)) (by omega) ?_; intro w6 o6 c6))
        go_roundw
        case rel =>
          refine ⟨k + 1, es ++ [entOf c q], by omega, by go_num, rfl, rfl, ?_, by rw [phc_snoc]; exact o6, ?_⟩
          · refine HD.out.turn hsz ((Below.refl _ _).alloc (Nat.le_refl _) _) HB2.out HM2.out (by simpa using HC.out) ((Below.refl _ _).alloc (Nat.le_refl _) _) ?_ c4 ((Below.refl _ _).alloc (Nat.le_refl _) _) c6
            rw [HMD.out]; exact o4
          · have := c6.size; have := c4.size; simp at *; omega
        case measure => simp [intOf]; omega
        -->B
      · as_aux_lemma =>
        obtain rfl : k = n0 := by omega
        obtain ⟨W1, hW1⟩ : ∃ W1, W1 = wr := ⟨_, rfl⟩
        subst hW1
        have HD1 : Hid (Mk N0 N0 k sb k es W0 W1) := D
        have HP1 : Hid (OwnC W1 1 80 (N0 + 1) k k (phc es)) := DP
        have HB1 : Hid (Bas w rq sb hb mb N0 fr u15 po W1) := HB0.out.on D.bel
        obtain ⟨N1, hN1⟩ : ∃ N1, W1.heap.size = N1 := ⟨_, rfl⟩
        have HW1 : Hid (W1.heap.size = N1) := hN1
        clear D DP hlt HB0 HW0 hN0
        have hmk := fun W => make70_0 W n1 (by omega)
        have HI2 : Hid (Mk N1 N1 n1 sb 0 [] W1 (W1.alloc (.cells (zR n1) 79))) := by
          have o1 := own70 W1 n1
          rw [hN1] at o1
          exact ⟨by rw [← hN1]; exact (Below.refl _ _).alloc (Nat.le_refl _) _, rfl, o1, by simp, by simp [Far], by simp⟩
        go_wp2
        go_loopw [21, 110] (fun v21 i wr => ∃ (j : Nat) (qs : List Ent), j ≤ n1 ∧ i = .int .i64 j ∧ v21 = .slice (some ⟨N1, 0, none⟩) j n1 ∧ Mk N1 N1 n1 sb j qs W1 wr ∧ N1 + 1 ≤ wr.heap.size) (fun _ i _ => n1 - (intOf i).toNat)
        case atStart => exact ⟨0, [], by omega, rfl, rfl, HI2.out, by simp [hN1]⟩
        case round => as_aux_lemma =>
          obtain ⟨j, qs, hj, rfl, rfl, D, hsz1⟩ := hrel
          clear hmk HI2
          by_cases hlt : j < n1
          · as_aux_lemma => --<C
            obtain ⟨q, hq⟩ : ∃ q, qr[j]? = some q := ⟨_, List.getElem?_eq_getElem (by have := HN1.out; omega)⟩
            have hBr := (HB1.out.on (W := wr) ⟨D.bel.os, D.bel.tape, D.bel.output, D.bel.size, fun i hi => D.bel.block i (by have := HB1.out.siz; omega)⟩).bel
            obtain ⟨b, off, ha1, y0, y1, y2, y3, y4, y5⟩ := (HS1.out.below hBr).at hq
            have HD : Hid (Mk N1 N1 n1 sb j qs W1 wr) := D
            clear D hBr hq
            subst ha1
            have hbl : b < wr.heap.size := block_lt_of_cell y0
            go_upto_region 22 with fail
            clear y0 y1 y2 y3 y4 y5
            go_region_law ((first
              | (refine step_room (by rfl) 70 (.tmp 114) (.tmp 122) (by rfl) Yba.underlying70 Yba.info79 (b := N1) (n := j) (cap := n1) (vs := lc qs) (by rfl) (xv := .slice (some ⟨w3.heap.size, 0, none⟩) 1 1) (by rfl) (HD.out.hol.below (HB12.out.next (by first | exact (Below.refl _ _).alloc (Nat.le_refl _) _ | exact ((Below.refl _ _).alloc (Nat.le_refl _) _).drew))) (m := 1) (us := [.pointer (some ⟨c, 0, none⟩), .int .u8 (if q.upd then 2 else 1)]) (two_src rfl rfl (by simp) (by simp)) (by omega) ?_; intro w4 o4 c4)
              | (go_simp; go_at_call 15; (with_reducible refine (HMk.out q _).mono ?_); rintro e w2 ⟨c, rfl, hc, b2, hM⟩; have HM2 : Hid (Memb w2 sb (entOf c q) (q.ph.tmod 12) 0 false nilV nilV) := hM; have z3 : w2.cell? ⟨wr.heap.size, 3, none⟩ = some (.bool q.upd) := b2.keep (by simp); have HB12 : Hid (Below wr.heap.size wr w2) := Below.next (by first | exact (Below.refl _ _).alloc (Nat.le_refl _) _ | exact ((Below.refl _ _).alloc (Nat.le_refl _) _).drew) b2; have HC : Hid (wr.heap.size + 2 < c) := (by simp at hc; show _ < c; omega); clear hM b2)
              | (go_simp; go_at_call 16; (with_reducible refine (mode_is q.upd _).mono ?_); rintro e w3 ⟨rfl, rfl⟩)
              | fail))
            all_goals go_wp2
            all_goals go_roundw
            all_goals first
              | exact ⟨j + 1, qs ++ [entOf c q], by omega, by go_num, rfl, HD.out.snoc (e := entOf c q) (Nat.le_refl _) hsz1 (HB12.out.next (by first | exact (Below.refl _ _).alloc (Nat.le_refl _) _ | exact ((Below.refl _ _).alloc (Nat.le_refl _) _).drew)) (HM2.out.below (by first | exact (Below.refl _ _).alloc (Nat.le_refl _) _ | exact ((Below.refl _ _).alloc (Nat.le_refl _) _).drew)) HC.out o4 c4, by have h4 := c4.size; have h5 := HB12.out.size; simp at h4; omega⟩
              | (simp [intOf]; omega)
            -->C
          · as_aux_lemma =>
            obtain rfl : j = n1 := by omega
            obtain ⟨W2, hW2⟩ : ∃ W2, W2 = wr := ⟨_, rfl⟩
            subst hW2
            have hb12 : Below W1.heap.size W1 W2 := by rw [hN1]; exact D.bel
            have HQ2 : Hid (Mk N1 N1 j sb j qs W1 W2) := D
            have HD2 : Hid (Mk N0 N0 k sb k es W0 W2) := HD1.out.below (by omega) hb12
            have HP2 : Hid (OwnC W2 1 80 (N0 + 1) k k (phc es)) := HP1.out.below hb12
            have HB2 : Hid (Bas w rq sb hb mb N0 fr u15 po W2) := HB1.out.on ⟨hb12.os, hb12.tape, hb12.output, hb12.size, fun i hi => hb12.block i (by have := HB1.out.siz; omega)⟩
            have hNN : N0 + 2 ≤ N1 := by omega
            have HD1' : Hid (Mk N0 N0 k sb k es W0 W1) := HD1.out
            have hsz1' : W1.heap.size = N1 := hN1
            clear D hlt HD1 HP1 HB1 hb12 HW1 hN1
            -- the copies of the two slices
            have hmk := fun W => make70 W k (by omega)
            have hmk2 := fun W => make70 W j (by omega)
            obtain ⟨N2, hN2⟩ : ∃ N2, W2.heap.size = N2 := ⟨_, rfl⟩
            have hlk : (lc es).length = k * 2 := by rw [lc_length, HD2.out.len]
            have hlj : (lc qs).length = j * 2 := by rw [lc_length, HQ2.out.len]
            have HLk : Hid ((lc es).length = k * 2) := hlk
            have HLj : Hid ((lc qs).length = j * 2) := hlj
            have HN2 : Hid (W2.heap.size = N2) := hN2
            have HF2 : Hid (Flat (W2.alloc (.cells (zR k) 79)) N2 79 (zR k).toList) := by show Flat _ _ _ _; rw [← hN2]; exact flat70 W2 k
            have HS2 : Hid (∀ i v, (lc es)[i]? = some v → (W2.alloc (.cells (zR k) 79)).cell? ⟨N0, 0 + i, none⟩ = some v) := (HD2.out.hol.below ((Below.refl _ _).alloc (Nat.le_refl _) _)).src
            clear hlk hlj
            go_upto_region 25 with fail
            go_upto_region 26 with ((with_reducible refine atCopy ?_); refine wpList_cpy rfl (.tmp 128) (.tmp 129) rfl N2 0 k k N0 0 k k (zR k).toList (lc es) rfl rfl HF2.out HLk.out (Nat.le_refl _) HS2.out (by rw [zR_len, HLk.out]; omega) (lc_one es) ?_)
            have hcn := copy_new W2 k (lc es) HLk.out
            rw [hN2] at hcn
            obtain ⟨o3, b3⟩ := hcn
            generalize (W2.alloc (.cells (zR k) 79)).setCells N2 0 (lc es) = W3 at *
            obtain ⟨N3, hN3⟩ : ∃ N3, W3.heap.size = N3 := ⟨_, rfl⟩
            have h23 : N2 < N3 := by have := o3.lt; omega
            have HO3 : Hid (OwnC W3 2 79 N2 k k (lc es)) := o3
            have HB3 : Hid (Below N2 W2 W3) := b3
            have HF3 : Hid (Flat (W3.alloc (.cells (zR j) 79)) N3 79 (zR j).toList) := by show Flat _ _ _ _; rw [← hN3]; exact flat70 W3 j
            have HS3 : Hid (∀ i v, (lc qs)[i]? = some v → (W3.alloc (.cells (zR j) 79)).cell? ⟨N1, 0 + i, none⟩ = some v) := ((HQ2.out.hol.below (by rw [hN2]; exact b3)).below ((Below.refl _ _).alloc (Nat.le_refl _) _)).src
            clear o3 b3 HF2 HS2
            go_upto_region 27 with fail
            go_upto_region 28 with ((with_reducible refine atCopy ?_); refine wpList_cpy rfl (.tmp 134) (.tmp 135) rfl N3 0 j j N1 0 j j (zR j).toList (lc qs) rfl rfl HF3.out HLj.out (Nat.le_refl _) HS3.out (by rw [zR_len, HLj.out]; omega) (lc_one qs) ?_)
            have hcn := copy_new W3 j (lc qs) HLj.out
            rw [hN3] at hcn
            obtain ⟨o4, b4⟩ := hcn
            generalize (W3.alloc (.cells (zR j) 79)).setCells N3 0 (lc qs) = W4 at *
            have b24 : Below W2.heap.size W2 W4 := by
              rw [hN2]
              exact ⟨b4.os.trans HB3.out.os, b4.tape.trans HB3.out.tape, b4.output.trans HB3.out.output, Nat.le_trans HB3.out.size b4.size, fun i hi => (b4.block i (by omega)).trans (HB3.out.block i hi)⟩
            have HE4 : Hid (OwnC W4 2 79 N2 k k (lc es)) := HO3.out.below (by rw [hN3]; exact b4)
            have HF4 : Hid (OwnC W4 2 79 N3 j j (lc qs)) := o4
            have HQ4 : Hid (Mk N1 N1 j sb j qs W1 W4) := HQ2.out.below (by omega) b24
            have HD4 : Hid (Mk N0 N0 k sb k es W0 W4) := HD2.out.below (by omega) b24
            have HP4 : Hid (OwnC W4 1 80 (N0 + 1) k k (phc es)) := HP2.out.below b24
            have HB4 : Hid (Bas w rq sb hb mb N0 fr u15 po W4) := HB2.out.on ⟨b24.os, b24.tape, b24.output, b24.size, fun i hi => b24.block i (by have := HB2.out.siz; omega)⟩
            have h34 : N3 < W4.heap.size := o4.lt
            have hN12 : N1 + 1 ≤ N2 := by omega
            have HN4 : Hid (∀ e ∈ es, e.c < N1) := fun e he => by have := (HD1'.out.mem e he).lt; omega
            have HN5 : Hid (∀ e ∈ qs, e.c < N2) := fun e he => by have := (HQ2.out.mem e he).lt; omega
            clear b24 o4 b4 HO3 HB3 HF3 HS3 HQ2 HD2 HP2 HB2 hN3 hmk hmk2
            go_upto_region 29 with fail
            go_cut [148] from 137 to 147 (fun v wx => PresV k j v ∧ wx = W4)
            case first => as_aux_lemma =>
              --<D
              by_cases hk0 : 0 < k
              · have hd : decide ((k : Int) > 0) = true := decide_eq_true (by omega)
                go_wp2
                go_meet
                case rel => exact ⟨⟨true, rfl, by simp⟩, rfl⟩
              · have hd : decide ((k : Int) > 0) = false := decide_eq_false (by omega)
                by_cases hj0 : 0 < j
                · have hd2 : decide ((j : Int) > 0) = true := decide_eq_true (by omega)
                  go_wp2
                  go_meet
                  case rel => exact ⟨⟨true, rfl, by simp⟩, rfl⟩
                · have hd2 : decide ((j : Int) > 0) = false := decide_eq_false (by omega)
                  cases ab
                  · go_wp2
                    go_meet
                    case rel => exact ⟨⟨true, rfl, by simp⟩, rfl⟩
                  · go_wp2
                    go_meet
                    case rel => exact ⟨⟨false, rfl, fun _ => ⟨by omega, by omega⟩⟩, rfl⟩
              -->D
            case rest => as_aux_lemma =>
              obtain ⟨⟨pr, rfl, hpr⟩, rfl⟩ := hcut
              obtain ⟨W4, hW4⟩ : ∃ W4, W4 = wc := ⟨_, rfl⟩
              subst hW4
              have HPR : Hid (pr = false → k = 0 ∧ j = 0) := hpr
              clear hpr
              go_upto_if 148 with fail
              go_cut [26] from 149 to 159 (fun v wx => Chg (· = mb) W4 wx ∧ MapD mb W4.heap.size page (.slice (some ⟨N0, 0, none⟩) k k) (.slice (some ⟨N1, 0, none⟩) j j) v k j wx)
              case first => as_aux_lemma =>
                --<E
                cases pr with
                | true =>
                  have c15 : W4.cell? ⟨sb, 15, none⟩ = some (.map (some mb)) := by rw [cell_of_row _ _ _ _ _ _ HB4.out.site.site]; rfl
                  have hsbl : sb < W4.heap.size := block_lt_of_cell c15
                  have hml : mb < W4.heap.size := (Array.getElem?_eq_some_iff.1 HB4.out.map).1
                  have hup := upd_first (w := W4.alloc (.cells #[.slice (some ⟨N0, 0, none⟩) k k, .slice (some ⟨N1, 0, none⟩) j j] 72)) page W4.heap.size (mb := mb) (by rw [Below.heap_alloc _ _ _ hml]; exact HB4.out.map)
                  go_wp2
                  go_meet
                  case rel =>
                    refine ⟨(Chg.of_below ((Below.refl _ _).alloc (Nat.le_refl _) _)).trans (chg_putE _ mb page _), .inl ⟨rfl, putE_at page _ (o := .map #[] 0) (by rw [Below.heap_alloc _ _ _ hml]; exact HB4.out.map), (chg_putE _ mb page _).heap (heap_alloc_new _ _) (by omega)⟩⟩
                | false =>
                  have HKJ : Hid (k = 0 ∧ j = 0) := HPR.out rfl
                  go_wp2
                  go_meet
                  case rel => exact ⟨Chg.refl _ _, .inr ⟨rfl, HB4.out.map, HKJ.out⟩⟩
                -->E
              case rest => as_aux_lemma =>
                obtain ⟨C5, MD5⟩ := hcut
                obtain ⟨W5, hW5⟩ : ∃ W5, W5 = wc := ⟨_, rfl⟩
                subst hW5
                have hi4 := HB4.out.hi
                have HE5 : Hid (OwnC W5 2 79 N2 k k (lc es)) := HE4.out.chg C5 (by omega)
                have HF5 : Hid (OwnC W5 2 79 N3 j j (lc qs)) := HF4.out.chg C5 (by omega)
                have HP5 : Hid (OwnC W5 1 80 (N0 + 1) k k (phc es)) := HP4.out.chg C5 (by omega)
                have HH5 : Hid (OwnC W5 2 79 N0 k k (lc es)) := HD4.out.hol.chg C5 (by omega)
                have HQ5 : Hid (OwnC W5 2 79 N1 j j (lc qs)) := HQ4.out.hol.chg C5 (by omega)
                have HM5 : Hid (∀ e ∈ es, Memb W5 sb e e.ph 0 false nilV nilV) := fun e he => by
                  have := HD4.out.low e he
                  exact (HD4.out.mem e he).chg C5 (by omega) (by omega) (by omega)
                have HMQ5 : Hid (∀ e ∈ qs, Memb W5 sb e e.ph 0 false nilV nilV) := fun e he => by
                  have := HQ4.out.low e he
                  exact (HQ4.out.mem e he).chg C5 (by omega) (by omega) (by omega)
                have HB5 : Hid (Bs w rq sb hb mb N0 fr u15 po W5) := HB4.out.bs C5
                have HMD5 : Hid (MapD mb W4.heap.size page (.slice (some ⟨N0, 0, none⟩) k k) (.slice (some ⟨N1, 0, none⟩) j j) u26 k j W5) := MD5
                have HFar : Hid (Far es) := HD4.out.far
                have HLo : Hid (∀ e ∈ es, N0 + 4 ≤ e.c) := HD4.out.low
                have HLoQ : Hid (∀ e ∈ qs, N1 + 4 ≤ e.c) := HQ4.out.low
                have hs45 := C5.size
                have HEl : Hid (es.length = k) := HD4.out.len
                have HQl : Hid (qs.length = j) := HQ4.out.len
                generalize hpb : W4.heap.size = pb at *
                clear C5 MD5 HB4 HE4 HF4 HQ4 HD4 HP4 HPR
                have x0 : W5.cell? ⟨w.heap.size, 0, none⟩ = some (.int .i16 rq.dl) := by rw [cell_of_row _ _ _ _ _ _ HB5.out.box]; rfl
                have x1 : W5.cell? ⟨w.heap.size, 1, none⟩ = some (.int .i16 rq.ar) := by rw [cell_of_row _ _ _ _ _ _ HB5.out.box]; rfl
                have x2 : W5.cell? ⟨w.heap.size, 2, none⟩ = some (.int .i8 rq.nu) := by rw [cell_of_row _ _ _ _ _ _ HB5.out.box]; rfl
                have x3 : W5.cell? ⟨w.heap.size, 3, none⟩ = some (.bool rq.upd) := by rw [cell_of_row _ _ _ _ _ _ HB5.out.box]; rfl
                have x4 : W5.cell? ⟨w.heap.size, 4, none⟩ = some (.int .u8 rq.ph) := by rw [cell_of_row _ _ _ _ _ _ HB5.out.box]; rfl
                have x5 : W5.cell? ⟨w.heap.size, 5, none⟩ = some (.bool rq.lend) := by rw [cell_of_row _ _ _ _ _ _ HB5.out.box]; rfl
                go_wp2_with fail
                (with_reducible refine (HMk.out rq _).mono ?_)
                rintro e w6 ⟨c, rfl, hc, b6, hM⟩
                have c3 : w6.cell? ⟨c, 3, none⟩ = some (.int .u8 (rq.ph.tmod 12)) := hM.cell 3
                have c11 : w6.cell? ⟨c, 11, none⟩ = some (.bool rq.lend) := hM.cell 11
                have f3 : w6.frozen? ⟨c, 3, none⟩ = false := hM.free 3
                have f11 : w6.frozen? ⟨c, 11, none⟩ = false := hM.free 11
                have z3 := b6.keep x3
                have hwl : w.heap.size < W5.heap.size := block_lt_of_cell x3
                have hcw : c ≠ w.heap.size := by omega
                have HM6 : Hid (Memb w6 sb (entOf c rq) (rq.ph.tmod 12) 0 false nilV nilV) := hM
                have HB6 : Hid (Below W5.heap.size W5 w6) := b6
                clear x0 x1 x2 x3 x4 x5 hM b6
                go_wp2_with fail
                (with_reducible refine (mode_is rq.upd _).mono ?_)
                rintro e w7 ⟨rfl, hw7⟩
                have hcl : c < w6.heap.size := HM6.out.lt
                have C67 : Chg (· = c) w6 w7 := by rw [hw7]; exact (chg_set w6 c 3 _).trans (chg_set _ c 11 _)
                have HR7 : Hid (Memb w7 sb ⟨c, if rq.upd = true then 2 else 1, (wrap64 rq.dl, wrap64 rq.ar, wrap64 rq.nu), 0, false⟩ 0 0 false nilV nilV) := by
                  have hl := HM6.out.low
                  have hl' : 3 ≤ c := hl
                  refine ⟨?_, C67.heap HM6.out.txn (by show ¬ c - 1 = c; omega), C67.heap HM6.out.cohs (by show ¬ c - 2 = c; omega), hl⟩
                  rw [hw7]
                  have h1 := heap_setCell_same w6 c 3 _ 83 (.int .u8 0) HM6.out.coh
                  have h2 := heap_setCell_same _ c 11 _ 83 (.bool false) h1
                  exact h2
                have hs67 := C67.size
                have HB7 : Hid (Below W5.heap.size W5 w7) := by
                  have b := HB6.out
                  have c' := C67.to_below (N := W5.heap.size) b.size (fun q hq => by omega)
                  exact b.trans c'
                clear hw7 c3 c11 f3 f11 z3 C67 HM6 HB6
                generalize hmd : (if rq.upd = true then (2 : Int) else 1) = md at *
                obtain ⟨r, hr⟩ : ∃ r : Ent, r = ⟨c, md, (wrap64 rq.dl, wrap64 rq.ar, wrap64 rq.nu), 0, false⟩ := ⟨_, rfl⟩
                have hrc : r.c = c := by rw [hr]
                have hrm : r.m = md := by rw [hr]
                have hrp : r.ph = 0 := by rw [hr]
                rw [← hr] at HR7
                clear hr hmd
                subst hrc hrm
                go_wp2
                have hB8 : Below w7.heap.size w7 (w7.alloc (.cells #[.pointer (some ⟨r.c, 0, none⟩), .int .u8 r.m] 79)) := (Below.refl _ _).alloc (Nat.le_refl _) _
                have hx8 : (w7.alloc (.cells #[.pointer (some ⟨r.c, 0, none⟩), .int .u8 r.m] 79)).heap[w7.heap.size]? = some (.cells #[.pointer (some ⟨r.c, 0, none⟩), .int .u8 r.m] 79 (0, 0)) := heap_alloc_new _ _
                have HB58 : Hid (Below W5.heap.size W5 (w7.alloc (.cells #[.pointer (some ⟨r.c, 0, none⟩), .int .u8 r.m] 79))) := HB7.out.next hB8
                have HR8 : Hid (Memb (w7.alloc (.cells #[.pointer (some ⟨r.c, 0, none⟩), .int .u8 r.m] 79)) sb r 0 0 false nilV nilV) := HR7.out.below hB8
                have HX8 : Hid ((w7.alloc (.cells #[.pointer (some ⟨r.c, 0, none⟩), .int .u8 r.m] 79)).heap[w7.heap.size]? = some (.cells #[.pointer (some ⟨r.c, 0, none⟩), .int .u8 r.m] 79 (0, 0))) := hx8
                have hcR : r.c < w7.heap.size := HR7.out.lt
                clear hB8 hx8 HB7 HR7
                generalize w7.alloc (.cells #[.pointer (some ⟨r.c, 0, none⟩), .int .u8 r.m] 79) = W8 at *
                generalize w7.heap.size = R at *
                have h58 := HB58.out.size
                have h5N : N0 ≤ W5.heap.size := HB5.out.siz
                have HE8 : Hid (OwnC W8 2 79 N2 k k (lc es)) := HE5.out.below HB58.out
                have HF8 : Hid (OwnC W8 2 79 N3 j j (lc qs)) := HF5.out.below HB58.out
                have HP8 : Hid (OwnC W8 1 80 (N0 + 1) k k (phc es)) := HP5.out.below HB58.out
                have HH8 : Hid (OwnC W8 2 79 N0 k k (lc es)) := HH5.out.below HB58.out
                have HQ8 : Hid (OwnC W8 2 79 N1 j j (lc qs)) := HQ5.out.below HB58.out
                have HM8 : Hid (∀ e ∈ es, Memb W8 sb e e.ph 0 false nilV nilV) := fun e he => (HM5.out e he).below HB58.out
                have HMQ8 : Hid (∀ e ∈ qs, Memb W8 sb e e.ph 0 false nilV nilV) := fun e he => (HMQ5.out e he).below HB58.out
                have HBs8 : Hid (Bs w rq sb hb mb N0 fr u15 po W8) := HB5.out.on ⟨HB58.out.os, HB58.out.tape, HB58.out.output, HB58.out.size, fun i hi => HB58.out.block i (by omega)⟩
                have HMD8 : Hid (MapD mb pb page (.slice (some ⟨N0, 0, none⟩) k k) (.slice (some ⟨N1, 0, none⟩) j j) u26 k j W8) := HMD5.out.below HB58.out
                have hpb5 : pb + 2 < r.c := by omega
                have HS58 : Hid (W5.heap.size + 2 < r.c) := hc
                have HpbC : Hid (pb ≤ W5.heap.size) := hs45
                clear HE5 HF5 HP5 HH5 HQ5 HM5 HMQ5 HB5 HMD5 HB58 HMk
                have hRl : R < W8.heap.size := (Array.getElem?_eq_some_iff.1 HX8.out).1
                go_loopw [29, 30, 31, 32, 33, 176] (fun v29 v30 v31 v32 v33 i wr => ∃ (kk : Nat) (any ok : Bool) (vs ls : List Ent), kk ≤ k ∧ i = .int .i64 kk ∧ v29 = .bool any ∧ v30 = .bool ok ∧ L3 W8 r es kk any ok vs ls v31 v32 v33 wr) (fun _ _ _ _ _ i _ => k - (intOf i).toNat)
                case atStart => exact ⟨0, false, true, [], [], by omega, rfl, rfl, rfl, L3.start W8 r es⟩
                case round => as_aux_lemma =>
                  obtain ⟨kk, any, ok, vs, ls, hkk, rfl, rfl, rfl, D⟩ := hrel
                  by_cases hlt : kk < k
                  · as_aux_lemma => --<F
                    obtain ⟨e, he⟩ : ∃ e, es[kk]? = some e := ⟨_, List.getElem?_eq_getElem (by have := HEl.out; omega)⟩
                    have hm := List.mem_of_getElem? he
                    have bel := D.bel
                    obtain ⟨y0, y1⟩ := (HE8.out.below bel).cells he
                    have p0 := (HP8.out.below bel).ph he
                    obtain ⟨xr0, xr1⟩ := rqcell ((Chg.of_below (S := fun _ => False) bel).heap HX8.out (fun h => h))
                    have hMe := (HM8.out e hm).below bel
                    have d11 : wr.cell? ⟨e.c, 11, none⟩ = some (.bool e.lend) := hMe.cell 11
                    have hel := hMe.lt
                    have hNl : N2 < wr.heap.size := block_lt_of_cell y0
                    have hPl : N0 + 1 < wr.heap.size := block_lt_of_cell p0
                    have hRl' : R < wr.heap.size := block_lt_of_cell xr0
                    have HCe : Hid (∀ A, Coh (wr.alloc A) e) := fun A => (hMe.below ((Below.refl _ _).alloc (Nat.le_refl _) A)).toCoh
                    have HCr : Hid (∀ A, Coh (wr.alloc A) r) := fun A => by
                      have h9 := (HR8.out.below bel).below ((Below.refl _ _).alloc (Nat.le_refl _) A)
                      rw [← hrp] at h9
                      exact h9.toCoh
                    have HE : Hid (es[kk]? = some e) := he
                    have HD : Hid (L3 W8 r es kk any ok vs ls u31 u32 u33 wr) := D
                    have hll := D.lv
                    clear he hm bel hMe D
                    go_upto_region 43 with fail
                    go_cut [188] from 181 to 187 (fun v wx => v = .bool (!(e.m == 2 || r.m == 2)) ∧ wx = wr.alloc (.cells #[.pointer (some ⟨e.c, 0, none⟩), .int .u8 e.m] 79))
                    case first => as_aux_lemma =>
                      --<G
                      obtain ⟨b2, hb2⟩ : ∃ b2, (r.m != 2) = b2 := ⟨_, rfl⟩
                      obtain ⟨b3, hb3⟩ : ∃ b3, (e.m != 2) = b3 := ⟨_, rfl⟩
                      have HW : Hid ((!(e.m == 2 || r.m == 2)) = (b2 && b3)) := by
                        show _ = _
                        rw [← hb2, ← hb3]
                        simp only [bne, Bool.not_or]
                        exact Bool.and_comm _ _
                      cases b2 with
                      | false =>
                        go_wp2
                        go_meet
                        case rel => exact ⟨by rw [HW.out]; rfl, rfl⟩
                      | true =>
                        cases b3 with
                        | false =>
                          go_wp2
                          go_meet
                          case rel => exact ⟨by rw [HW.out]; rfl, rfl⟩
                        | true =>
                          go_wp2
                          go_meet
                          case rel => exact ⟨by rw [HW.out]; rfl, rfl⟩
                      -->G
                    case rest => as_aux_lemma =>
                      obtain ⟨rfl, rfl⟩ := hcut
                      clear y0 y1 xr0 xr1
                      cases hcf : (e.m == 2 || r.m == 2) with
                      | false =>
                        have hcf' := hcf
                        simp only [Bool.or_eq_false_iff, beq_eq_false_iff_ne] at hcf'
                        have HF : Hid (L3 W8 r es (kk + 1) any ok vs ls u31 u32 u33 (wr.alloc (.cells #[.pointer (some ⟨e.c, 0, none⟩), .int .u8 e.m] 79))) := (HD.out.below ((Below.refl _ _).alloc (Nat.le_refl _) _)).skip HE.out hcf'.2 hcf'.1
                        clear hcf'
                        go_wp2
                        go_roundw
                        case rel => exact ⟨kk + 1, any, ok, vs, ls, by omega, by go_num, rfl, rfl, HF.out⟩
                        case measure => simp [intOf]; omega
                      | true =>
                        cases ok with
                        | false =>
                          have HF : Hid (L3 W8 r es (kk + 1) true false vs ls u31 u32 u33 (wr.alloc (.cells #[.pointer (some ⟨e.c, 0, none⟩), .int .u8 e.m] 79))) := (HD.out.below ((Below.refl _ _).alloc (Nat.le_refl _) _)).after HE.out hcf
                          go_wp2
                          go_roundw
                          case rel => exact ⟨kk + 1, true, false, vs, ls, by omega, by go_num, rfl, rfl, HF.out⟩
                          case measure => simp [intOf]; omega
                        | true =>
                          go_wp2_with fail
                          (with_reducible refine (lends17 e.ph e.lend _).mono ?_)
                          rintro e2 w10 ⟨rfl, hw10⟩
                          have HB10 : Hid (Below wr.heap.size wr w10) := by show Below _ _ _; rw [hw10]; exact (Below.refl _ _).alloc (Nat.le_refl _) _
                          have z0 : w10.cell? ⟨wr.heap.size, 0, none⟩ = some (.pointer (some ⟨e.c, 0, none⟩)) := by rw [hw10]; simp
                          have HCe' : Hid (Coh w10 e) := by show Coh _ _; rw [hw10]; exact HCe.out _
                          have HCr' : Hid (Coh w10 r) := by show Coh _ _; rw [hw10]; exact HCr.out _
                          have HD10 : Hid (L3 W8 r es kk any true vs ls u31 u32 u33 w10) := HD.out.below HB10.out
                          clear p0 d11 hw10
                          cases hle : lendsP e.ph e.lend with
                          | true =>
                            go_wp2_with ((with_reducible refine atAppend ?_); refine wpList_app rfl 81 (.tmp 203) (.tmp 206) rfl Yba.underlying81 Yba.info74 rfl (by omega) (v := u32) (n := ls.length) (vs := pc ls) (xv := .slice (some ⟨w10.heap.size, 0, none⟩) 1 1) (m := 1) (us := [.pointer (some ⟨e.c, 0, none⟩)]) rfl rfl (HD10.out.lend.below ((Below.refl _ _).alloc (Nat.le_refl _) _)) (one_src rfl (by simp)) (.inl (by omega)) (by omega) ?_; intro v' w5 o5 c5 n5 z5)
                            go_roundw
                            case rel => exact ⟨kk + 1, true, true, vs, ls ++ [e], by omega, by go_num, rfl, rfl, HD10.out.addL ((Below.refl _ _).alloc (Nat.le_refl _) _) HE.out hcf hle o5 c5 n5⟩
                            case measure => simp [intOf]; omega
                          | false =>
                            go_wp2_with fail
                            (with_reducible refine (out18 r e _ HCr'.out HCe'.out).mono ?_)
                            rintro e3 w11 ⟨rfl, hb11⟩
                            have z1 := hb11.keep z0
                            have HD11 : Hid (L3 W8 r es kk any true vs ls u31 u32 u33 w11) := HD10.out.below hb11
                            clear z0 hb11
                            cases hrk : rank r.p e.p with
                            | true =>
                              go_wp2_with fail
                              (with_reducible refine (abort19 e.ph _).mono ?_)
                              rintro e4 w12 ⟨rfl, rfl⟩
                              cases hab : abortP e.ph with
                              | true =>
                                go_wp2_with (first
                                  | ((with_reducible refine atAppend ?_); refine wpList_app rfl 81 (.tmp 217) (.tmp 220) rfl Yba.underlying81 Yba.info74 rfl (by omega) (v := u31) (n := vs.length) (vs := pc vs) (xv := .slice (some ⟨w12.heap.size, 0, none⟩) 1 1) (m := 1) (us := [.pointer (some ⟨e.c, 0, none⟩)]) rfl rfl (HD11.out.vict.below ((Below.refl _ _).alloc (Nat.le_refl _) _)) (one_src rfl (by simp)) (.inl (by omega)) (by omega) ?_; intro v' w5 o5 c5 n5 z5; have HO5 : Hid (∀ A, Own (w5.alloc A) 1 80 u33 vs.length (phc vs)) := (fun A => Own.chg (Own.chg (Own.chg HD11.out.phs (Chg.of_below (S := fun _ => False) ((Below.refl _ _).alloc (Nat.le_refl _) _)) (fun _ _ h => h)) c5 (fun b hb hv => (HD11.out.newV b hv).2.2 hb)) (Chg.of_below (S := fun _ => False) ((Below.refl _ _).alloc (Nat.le_refl _) A)) (fun _ _ h => h)))
                                  | ((with_reducible refine atAppend ?_); refine wpList_app rfl 73 (.tmp 222) (.tmp 224) rfl Yba.underlying73 Yba.info80 rfl (by omega) (v := u33) (n := vs.length) (vs := phc vs) (xv := .slice (some ⟨w5.heap.size, 0, none⟩) 1 1) (m := 1) (us := [.int .u8 e.ph]) rfl rfl (HO5.out _) (one_src73 rfl (by simp)) (.inl (by omega)) (by omega) ?_; intro v7 w7' o7 c7 n7 z7))
                                go_roundw
                                case rel => exact ⟨kk + 1, true, true, vs ++ [e], ls, by omega, by go_num, rfl, rfl, HD11.out.addV ((Below.refl _ _).alloc (Nat.le_refl _) _) HE.out hcf hle hrk hab o5 c5 n5 ((Below.refl _ _).alloc (Nat.le_refl _) _) o7 c7 n7⟩
                                case measure => simp [intOf]; omega
                              | false =>
                                have HF : Hid (L3 W8 r es (kk + 1) true false vs ls u31 u32 u33 w12) := HD11.out.stop HE.out hcf hle (by rw [hrk, hab]; rfl)
                                go_wp2
                                go_roundw
                                case rel => exact ⟨kk + 1, true, false, vs, ls, by omega, by go_num, rfl, rfl, HF.out⟩
                                case measure => simp [intOf]; omega
                            | false =>
                              have HF : Hid (L3 W8 r es (kk + 1) true false vs ls u31 u32 u33 w11) := HD11.out.stop HE.out hcf hle (by rw [hrk]; rfl)
                              go_wp2
                              go_roundw
                              case rel => exact ⟨kk + 1, true, false, vs, ls, by omega, by go_num, rfl, rfl, HF.out⟩
                              case measure => simp [intOf]; omega
                    -->F
                  · as_aux_lemma =>
                    obtain rfl : kk = k := by omega
                    obtain ⟨W9, hW9⟩ : ∃ W9, W9 = wr := ⟨_, rfl⟩
                    subst hW9
                    have HL : Hid (L3 W8 r es kk any ok vs ls u31 u32 u33 W9) := D
                    have HW9 : Hid (Was w rq sb hb mb N0 N1 N2 N3 pb W5.heap.size kk j fr u15 u26 po page es qs r W9) := by
                      have h8 : Was w rq sb hb mb N0 N1 N2 N3 pb W5.heap.size kk j fr u15 u26 po page es qs r W8 := ⟨HBs8.out, HMD8.out, HH8.out, HQ8.out, HE8.out, HF8.out, HM8.out, HMQ8.out, HR8.out, HFar.out, fun e he => ⟨HLo.out e he, HN4.out e he⟩, fun e he => ⟨HLoQ.out e he, HN5.out e he⟩, by omega, ⟨HEl.out, HQl.out, by omega, by omega⟩, hrp⟩
                      exact h8.below D.bel
                    have HX9 : Hid (W9.heap[R]? = some (.cells #[.pointer (some ⟨r.c, 0, none⟩), .int .u8 r.m] 79 (0, 0))) := (Chg.of_below (S := fun _ => False) D.bel).heap HX8.out (fun h => h)
                    have hR9 : R < W8.heap.size := hRl
                    have h89 := D.bel.size
                    clear D HBs8 HMD8 HH8 HQ8 HE8 HF8 HP8 HM8 HMQ8 HR8 hlt
                    go_upto_region 54 with fail
                    go_cut [37] from 227 to 237 (fun v wx => v = .bool (headOK r qs) ∧ Below W9.heap.size W9 wx)
                    case first => as_aux_lemma =>
                      --<H
                      have HCr : Hid (Coh W9 r) := by
                        have h9 := HW9.out.mr
                        rw [← hrp] at h9
                        exact h9.toCoh
                      cases qs with
                      | nil =>
                        have hj0 : j = 0 := by have := HQl.out; simpa using this.symm
                        subst hj0
                        go_wp2
                        go_meet
                        case rel => exact ⟨rfl, Below.refl _ _⟩
                      | cons q qt =>
                        obtain ⟨y0, y1⟩ := HW9.out.pq.cells (kk := 0) (e := q) rfl
                        have hjq : qt.length + 1 = j := HQl.out
                        simp only [Nat.zero_mul, Nat.zero_add] at y0 y1
                        have HCq : Hid (Coh W9 q) := (HW9.out.mq q (by simp)).toCoh
                        obtain ⟨n, hn⟩ : ∃ n, j = n + 1 := ⟨qt.length, hjq.symm⟩
                        have hd0 : (((n + 1 : Nat) : Int) == 0) = false := beq_eq_false_iff_ne.2 (by omega)
                        have hd1 : (((n : Int) + 1) == 0) = false := beq_eq_false_iff_ne.2 (by omega)
                        have hd2 : ((n : Int) + 1) ≠ 0 := by omega
                        clear hjq y1
                        subst hn
                        go_wp2_with fail
                        (with_reducible refine (out18 r q _ HCr.out HCq.out).mono ?_)
                        rintro e3 w11 ⟨rfl, hb11⟩
                        go_wp2
                        go_meet
                        case rel => exact ⟨rfl, hb11⟩
                      -->H
                    case rest => as_aux_lemma =>
                      obtain ⟨rfl, hb10⟩ := hcut
                      obtain ⟨W10, hW10⟩ : ∃ W10, W10 = wc := ⟨_, rfl⟩
                      subst hW10
                      have HL10 : Hid (L3 W8 r es kk any ok vs ls u31 u32 u33 W10) := HL.out.below hb10
                      have HW10 : Hid (Was w rq sb hb mb N0 N1 N2 N3 pb W5.heap.size kk j fr u15 u26 po page es qs r W10) := HW9.out.below hb10
                      have HX10 : Hid (W10.heap[R]? = some (.cells #[.pointer (some ⟨r.c, 0, none⟩), .int .u8 r.m] 79 (0, 0))) := (Chg.of_below (S := fun _ => False) hb10).heap HX9.out (fun h => h)
                      have h810 : W8.heap.size ≤ W10.heap.size := by have := hb10.size; omega
                      clear hb10 HL HW9 HX9
                      go_upto_region 55 with fail
                      go_cut [38] from 238 to 241 (fun v wx => v = .bool (headOK r qs && ok) ∧ wx = W10)
                      case first => as_aux_lemma =>
                        --<I
                        generalize headOK r qs = hk at *
                        cases hk with
                        | false =>
                          go_wp2
                          go_meet
                          case rel => exact ⟨rfl, rfl⟩
                        | true =>
                          go_wp2
                          go_meet
                          case rel => exact ⟨rfl, rfl⟩
                        -->I
                      case rest => as_aux_lemma =>
                        obtain ⟨rfl, hwc⟩ := hcut
                        obtain ⟨Wq, hWq⟩ : ∃ Wq, Wq = wc := ⟨_, rfl⟩
                        subst hWq
                        subst hwc
                        have HWd : Hid (Was w rq sb hb mb N0 N1 N2 N3 pb W5.heap.size kk j fr u15 u26 po page es qs r Wq.drew) := HW10.out.below (Below.refl _ _).drew
                        obtain ⟨pbF, fr', hvF, qvF, hI, hLk, hpw, hvB, qvB, hpF, hfrw⟩ := HWd.out.ini
                        have HI : Hid (Ini N0 sb hb mb pbF fr fr' hvF qvF page es qs r Wq.drew) := hI
                        have HLk : Hid (Link u26 u15 po pbF fr') := hLk
                        have HNT : Hid (∀ b, N1 < b → b ≠ pb → b ≠ r.c → b < Wq.heap.size → ¬ Touch sb hb mb pbF fr hvF qvF es r b) := fun b h1 h2 h3 h4 => noTouch (M := Wq.heap.size) (by omega) hI.lay.frN hvB qvB hpF (by omega) (fun e he => (HWd.out.lo e he).2) h1 h2 h3 h4
                        have HVB : Hid ((∀ b, InV hvF b → b = N0) ∧ (∀ b, InV qvF b → b = N1) ∧ (∀ b, InV fr b → w.heap.size < b) ∧ w.heap.size < pbF) := ⟨hvB, qvB, hfrw, hpw⟩
                        have HAq : Hid (Calls Yba.prog 20 #[.pointer (some ⟨sb, 15, none⟩), .pointer (some ⟨r.c, 0, none⟩), .int .i64 page, .int .u8 r.m] Wq.drew fun e w' => AcqV Wq.drew sb hb mb pbF fr fr' hvF qvF page es qs r e w') := acquireV N0 sb hb mb pbF fr fr' hvF qvF page es qs r Wq.drew hI
                        obtain ⟨_, xr1⟩ := rqcell HX10.out
                        have HR1 : Hid (∀ e w', AcqEnds Wq.drew sb hb mb pbF fr fr' hvF qvF page es qs r e w' → w'.cell? ⟨R, 1, none⟩ = some (.int .u8 r.m)) := fun e w' hA => hA.chg.keep (HNT.out R (by omega) (by omega) (by omega) (by omega)) xr1
                        clear hI hLk hpw hvB qvB hpF hfrw
                        go_upto_region 56 with fail
                        go_cut [39] from 242 to 249 (fun v wx => ∃ w11, Below w11.heap.size w11 wx ∧ ∃ g : Bool, v = .bool g ∧ AcqEnds Wq.drew sb hb mb pbF fr fr' hvF qvF page es qs r (.returned (.bool g)) w11)
                        case first => as_aux_lemma =>
                          --<J
                          go_region_held3 (fun w' => w'.cell? ⟨R, 1, none⟩ = some (.int .u8 r.m))
                            (first | exact xr1 | exact HR1.out _ _ (by assumption))
                            ((go_at_call 20; (with_reducible refine HAq.out.mono ?_); rintro e w11 ⟨g, rfl, hA⟩))
                          go_wp2
                          go_meet
                          case rel => exact ⟨w11, Below.refl _ _, g, rfl, hA⟩
                          -->J
                        case rest => as_aux_lemma =>
                          obtain ⟨w11, hb11, g, rfl, hA⟩ := hcut
                          obtain ⟨V0, hV0⟩ : ∃ V0, V0 = wc := ⟨_, rfl⟩
                          subst hV0
                          have hTk : ok = true → tk r es [] [] = some (vs, ls) := fun ho => by
                            rw [← HL10.out.okT ho, List.drop_of_length_le (by have := HEl.out; omega)]; rfl
                          have hg : g = (headOK r qs && ok) := hA.granted hTk HL10.out.okF
                          have HAny : Hid (any = anyC r es) := by
                            have h9 := HL10.out.anyE
                            rw [List.take_of_length_le (by have := HEl.out; omega)] at h9
                            exact h9
                          have HTk : Hid (ok = true → tk r es [] [] = some (vs, ls)) := hTk
                          have HG : Hid (g = (headOK r qs && ok)) := hg
                          have HA : Hid (AcqEnds Wq.drew sb hb mb pbF fr fr' hvF qvF page es qs r (.returned (.bool g)) w11) := hA
                          have HB11 : Hid (Below w11.heap.size w11 V0) := hb11
                          have HCo : Hid (Com sb hb mb pbF fr' page es r V0) := hA.com.below hb11
                          rw [← hg]
                          clear hg hTk hA hb11 xr1 HR1 HAq HWd HI
                          obtain ⟨ac', la', bo', se', en', S0⟩ := HCo.out.site
                          rw [← HAny.out] at S0
                          have h0c : V0.cell? ⟨hb, 0, none⟩ = some (.int .i64 (cfOf any)) := by rw [cell_of_row _ _ _ _ _ _ S0.host]; rfl
                          have h1c : V0.cell? ⟨hb, 1, none⟩ = some (ctOf any r) := by rw [cell_of_row _ _ _ _ _ _ S0.host]; rfl
                          have htx := HCo.out.tx
                          have s15 : V0.cell? ⟨sb, 15, none⟩ = some (.map (some mb)) := by rw [cell_of_row _ _ _ _ _ _ S0.site]; rfl
                          have s16 : V0.cell? ⟨sb, 16, none⟩ = some fr' := by rw [cell_of_row _ _ _ _ _ _ S0.site]; rfl
                          clear S0
                          go_upto_region 57 with fail
                          go_cut [261] from 250 to 260 (fun v wx => v = .bool false ∧ Below V0.heap.size V0 wx)
                          case first => as_aux_lemma =>
                            --<K
                            have HB2 : Hid (∀ W, Calls Yba.prog 21 #[.bool any] W fun e w' => e = .returned (.int .i64 (cfOf any)) ∧ w' = W) := b2i_cf any
                            cases g with
                            | false =>
                              go_region_held3 (fun w' => w'.cell? ⟨hb, 0, none⟩ = some (.int .i64 (cfOf any)))
                                (first | exact h0c | assumption)
                                ((go_at_call 21; (with_reducible refine (HB2.out _).mono ?_); rintro e w2 ⟨rfl, rfl⟩))
                              go_wp2
                              go_meet
                              case rel => exact ⟨rfl, rfl, rfl, rfl, Nat.le_refl _, fun _ _ => rfl⟩
                            | true =>
                              go_region_held3 (fun w' => w'.cell? ⟨hb, 0, none⟩ = some (.int .i64 (cfOf any)))
                                (first | exact h0c | assumption)
                                ((go_at_call 21; (with_reducible refine (HB2.out _).mono ?_); rintro e w2 ⟨rfl, rfl⟩))
                              go_wp2
                              go_meet
                              case rel => exact ⟨rfl, rfl, rfl, rfl, Nat.le_refl _, fun _ _ => rfl⟩
                            -->K
                          case rest => as_aux_lemma =>
                            obtain ⟨rfl, hbA⟩ := hcut
                            obtain ⟨V1, hV1⟩ : ∃ V1, V1 = wc := ⟨_, rfl⟩
                            subst hV1
                            have h1d := hbA.keep h1c
                            have htd := hbA.keep htx
                            have HBA : Hid (Below V0.heap.size V0 V1) := hbA
                            go_upto_region 59 with fail
                            go_cut [273] from 262 to 272 (fun v wx => v = .bool false ∧ Below V1.heap.size V1 wx)
                            case first => as_aux_lemma =>
                              --<L
                              have hn47 := neq47
                              cases any with
                              | false =>
                                go_quiet (fail)
                                go_wp2
                                go_meet
                                case rel => exact ⟨rfl, rfl, rfl, rfl, Nat.le_refl _, fun _ _ => rfl⟩
                              | true =>
                                have h1e : V1.cell? ⟨hb, 1, none⟩ = some (.pointer (some ⟨r.c - 1, 0, none⟩)) := h1d
                                clear h1d h1c
                                go_quiet (fail)
                                go_wp2
                                go_meet
                                case rel => exact ⟨rfl, rfl, rfl, rfl, Nat.le_refl _, fun _ _ => rfl⟩
                              -->L
                            case rest => as_aux_lemma =>
                              obtain ⟨rfl, hbB⟩ := hcut
                              obtain ⟨V2, hV2⟩ : ∃ V2, V2 = wc := ⟨_, rfl⟩
                              subst hV2
                              have hb02 : Below V0.heap.size V0 V2 := hbA.next hbB
                              have HB02 : Hid (Below V0.heap.size V0 V2) := hb02
                              have hlk := lookup_one page (HCo.out.below hb02).map
                              have t15 := hb02.keep s15
                              have t16 := hb02.keep s16
                              have heqP := eq_nilP
                              obtain ⟨b26, hn26, hg26, hcase⟩ := neq26 HLk.out
                              have HC26 : Hid _ := hcase
                              clear hcase h0c h1c htx s15 s16 h1d htd hbA hbB hb02
                              go_upto_if 284 with fail
                              go_cut [] from 285 to 310 (fun wx => wx = V2)
                              case first => as_aux_lemma =>
                                --<M
                                have hn69 := neq69
                                rcases HC26.out with ⟨rfl, h26, hpo⟩ | ⟨rfl, h26, hpo⟩
                                · subst h26
                                  clear hn26 hg26
                                  cases po with
                                  | false =>
                                    go_wp2
                                    go_meet
                                    case rel => rfl
                                  | true =>
                                    obtain ⟨ao, rfl⟩ := hpo rfl
                                    go_wp2
                                    go_meet
                                    case rel => rfl
                                · subst h26
                                  clear hn26 hg26
                                  cases po with
                                  | false =>
                                    go_wp2
                                    go_meet
                                    case rel => rfl
                                  | true =>
                                    obtain ⟨h15, ao, rfl⟩ := hpo rfl
                                    subst h15
                                    go_wp2
                                    go_meet
                                    case rel => rfl
                                -->M
                              case rest => as_aux_lemma =>
                                obtain ⟨V3, hV3⟩ : ∃ V3, V3 = wc := ⟨_, rfl⟩
                                subst hV3
                                have HB23 : Hid (Below w11.heap.size w11 V3) := by
                                  show Below _ _ _
                                  rw [hcut]
                                  exact HB11.out.next HB02.out
                                clear hcut hlk t15 t16 heqP hn26 hg26 HC26 HB02 HB11 HBA
                                have HwV : Hid (Below w.heap.size w V3) := by
                                  have b1 := HW10.out.bs.bel
                                  obtain ⟨lo1, lo2, lo3, lo4, lo5⟩ := HW10.out.bs.lo
                                  obtain ⟨hi1, hi2, hi3, hi5⟩ := HW10.out.bs.hi
                                  obtain ⟨v1, v2, v3, v4⟩ := HVB.out
                                  have hs : ∀ q, Touch sb hb mb pbF fr hvF qvF es r q → w.heap.size ≤ q := by
                                    rintro q ((h | h | h | h) | h | h | h | h | ⟨x, hx, h⟩)
                                    · omega
                                    · omega
                                    · have := v3 q h; omega
                                    · omega
                                    · omega
                                    · have := v1 q h; omega
                                    · have := v2 q h; omega
                                    · omega
                                    · have := (HW10.out.lo x hx).1; omega
                                  have b2 : Below w.heap.size Wq.drew w11 := HA.out.chg.to_below b1.size hs
                                  exact (b1.drew.trans b2).next HB23.out
                                have hwq : N1 < N2 ∧ N2 < N3 ∧ N3 < pb ∧ pb < r.c ∧ r.c < R ∧ R < Wq.heap.size := by omega
                                cases g with
                                | false =>
                                  as_aux_lemma => --<S
                                  have HRf : Hid (∃ qv1, AfR sb hb mb pbF N2 N3 R kk j fr' hvF qv1 any es qs r V3) := by
                                    rcases HA.out with ⟨vs', ls', hv1, lv', g1, g2, h9, G⟩ | ⟨_, _, qv1, G⟩
                                    · injection h9 with h9
                                      injection h9 with h9
                                      cases h9
                                    · have bd : Below Wq.heap.size Wq Wq.drew := (Below.refl _ _).drew
                                      have Sg := G.site
                                      rw [← HAny.out] at Sg
                                      have A11 : AfR sb hb mb pbF N2 N3 R kk j fr' hvF qv1 any es qs r w11 :=
                                        ⟨G.pl, G.hol, G.que, Sg, G.coh, fun e he => by
                                            have h8 := HW10.out.loq e he
                                            have h7 := ((HW10.out.mq e he).below bd).lt
                                            have h6 : Wq.drew.heap.size = Wq.heap.size := rfl
                                            exact (((HW10.out.mq e he).below bd).chg G.chg (HNT.out _ (by omega) (by omega) (by omega) (by omega)) (HNT.out _ (by omega) (by omega) (by omega) (by omega)) (HNT.out _ (by omega) (by omega) (by omega) (by omega))).toCoh,
                                          (HW10.out.pe.below bd).chg G.chg (HNT.out N2 (by omega) (by omega) (by omega) (by omega)), (HW10.out.pq.below bd).chg G.chg (HNT.out N3 (by omega) (by omega) (by omega) (by omega)), G.chg.heap (a := Wq.drew) HX10.out (HNT.out R (by omega) (by omega) (by omega) (by omega)), HW10.out.len⟩
                                      exact ⟨qv1, A11.below HB23.out⟩
                                  obtain ⟨qv1, HRg⟩ := HRf.out
                                  have HRf : Hid (AfR sb hb mb pbF N2 N3 R kk j fr' hvF qv1 any es qs r V3) := HRg
                                  clear HRg HA HG HTk HNT HL10 HW10 HX10 HB23 HVB HAny HLk
                                  have HCr : Hid (∀ W, Below V3.heap.size V3 W → Coh W r) := fun W hW => ((HRf.out.below hW).coh).toCoh
                                  go_wp2
                                  go_loopw [48] (fun i wr => ∃ q : Nat, q ≤ j ∧ i = .int .i64 q ∧ q + insI r (qs.drop q) = insI r qs ∧ Below V3.heap.size V3 wr) (fun i _ => j - (intOf i).toNat)
                                  case atStart => exact ⟨0, by omega, rfl, by simp, Below.refl _ _⟩
                                  case round => as_aux_lemma =>
                                    obtain ⟨q, hq, rfl, hins, hBq⟩ := hrel
                                    have HBq : Hid (Below V3.heap.size V3 wr) := hBq
                                    have HRq : Hid (AfR sb hb mb pbF N2 N3 R kk j fr' hvF qv1 any es qs r wr) := HRf.out.below hBq
                                    have HINS : Hid (q + insI r (qs.drop q) = insI r qs) := hins
                                    clear hins hBq
                                    go_upto_region 108 with fail
                                    go_cut [488] from 475 to 487 (fun v wx => AtK r qs q j wr wx v)
                                    case first => as_aux_lemma =>
                                      --<T
                                      by_cases hlt : q < j
                                      · obtain ⟨x, hx⟩ : ∃ x, qs[q]? = some x := ⟨_, List.getElem?_eq_getElem (by have := HRq.out.len.2.1; omega)⟩
                                        obtain ⟨y0, y1⟩ := HRq.out.pq.cells hx
                                        have hd : decide ((q : Int) < (j : Int)) = true := decide_eq_true (by omega)
                                        have HCq : Hid (Coh wr x) := HRq.out.mq x (List.mem_of_getElem? hx)
                                        have hi := insI_drop (r := r) hx
                                        have HI2 : Hid (q + (if rank r.p x.p then 0 else insI r (qs.drop (q + 1)) + 1) = insI r qs) := by
                                          show _ = _
                                          rw [← hi]; exact HINS.out
                                        clear hi hx
                                        go_wp2_with fail
                                        (with_reducible refine (out18 r x _ (HCr.out _ HBq.out) HCq.out).mono ?_)
                                        rintro e3 w12 ⟨rfl, hb12⟩
                                        go_wp2
                                        go_meet
                                        case rel =>
                                          refine ⟨hb12, ?_⟩
                                          have h9 := HI2.out
                                          cases hrk : rank r.p x.p with
                                          | true => rw [hrk] at h9; exact .inr ⟨rfl, by simpa using h9⟩
                                          | false => rw [hrk] at h9; exact .inl ⟨rfl, hlt, by rw [← h9]; simp; omega⟩
                                      · have hd : decide ((q : Int) < (j : Int)) = false := decide_eq_false (by omega)
                                        have HI2 : Hid (q = insI r qs) := by
                                          have h9 := HINS.out
                                          rw [List.drop_of_length_le (by have := HRq.out.len.2.1; omega)] at h9
                                          exact h9
                                        go_wp2
                                        go_meet
                                        case rel => exact ⟨Below.refl _ _, .inr ⟨rfl, HI2.out⟩⟩
                                      -->T
                                    case rest => as_aux_lemma =>
                                      obtain ⟨hB8, hor⟩ := hcut
                                      obtain ⟨V5, hV5⟩ : ∃ V5, V5 = wc := ⟨_, rfl⟩
                                      subst hV5
                                      have HB5 : Hid (Below V3.heap.size V3 V5) := HBq.out.next hB8
                                      clear hB8
                                      rcases hor with ⟨rfl, hlt, hins2⟩ | ⟨rfl, hki⟩
                                      · have HR8 : Hid (q + 1 + insI r (qs.drop (q + 1)) = insI r qs) := hins2
                                        clear hins2
                                        go_wp2
                                        go_roundw
                                        case rel => exact ⟨q + 1, by omega, by go_num, HR8.out, HB5.out⟩
                                        case measure => simp [intOf]; omega
                                      · have HKI : Hid (q = insI r qs) := hki
                                        clear hki HINS HRq HBq
                                        have HA5 : Hid (AfR sb hb mb pbF N2 N3 R kk j fr' hvF qv1 any es qs r V5) := HRf.out.below HB5.out
                                        have HwV5 : Hid (Below w.heap.size w V5) := HwV.out.next HB5.out
                                        obtain ⟨M, hM⟩ : ∃ M, V5.heap.size = M := ⟨_, rfl⟩
                                        have hmk : ∀ W : World, (Instr.makeSlice 70 (.int .i64 0) (.int .i64 ((j : Int) + 1))).run Yba.prog W = .ok (.slice (some ⟨W.heap.size, 0, none⟩) 0 (j + 1)) (W.alloc (.cells (zR (j + 1)) 79)) := fun W => by
                                          have h9 := make70_0 W (j + 1) (by omega)
                                          rw [Int.natCast_add] at h9
                                          exact h9
                                        have bM : Below V5.heap.size V5 (V5.alloc (.cells (zR (j + 1)) 79)) := (Below.refl _ _).alloc (Nat.le_refl _) _
                                        have HO0 : Hid (OwnC (V5.alloc (.cells (zR (j + 1)) 79)) 2 79 M 0 (j + 1) []) := by
                                          have o1 := own70 V5 (j + 1)
                                          rw [hM] at o1
                                          exact o1
                                        obtain ⟨xr0, xr1⟩ := rqcell HA5.out.box
                                        have hRl5 : R < V5.heap.size := block_lt_of_cell xr0
                                        have hN3l : N3 < V5.heap.size := HA5.out.pq.lt
                                        have hln2 := HA5.out.len.2.1
                                        have HS1 : Hid (Src Yba.prog 2 70 (.slice (some ⟨N3, 0, none⟩) q j) q (lc (qs.take q)) (V5.alloc (.cells (zR (j + 1)) 79))) := lc_part (HA5.out.pq.below bM) 0 (fun i v hv => by rw [Nat.zero_add, lc_take_drop qs q, List.getElem?_append_left (List.getElem?_eq_some_iff.1 hv).1, hv]) (by rw [List.length_take]; omega) j
                                        -- every world behind that leaves all but M alone
                                        have HK : Hid (∀ W, Below V5.heap.size V5 W → AfR sb hb mb pbF N2 N3 R kk j fr' hvF qv1 any es qs r W ∧ Below w.heap.size w W ∧ W.cell? ⟨R, 0, none⟩ = some (.pointer (some ⟨r.c, 0, none⟩)) ∧ W.cell? ⟨R, 1, none⟩ = some (.int .u8 r.m) ∧ W.cell? ⟨pbF, 0, none⟩ = some hvF ∧ W.cell? ⟨pbF, 1, none⟩ = some qv1) := fun W hW => by
                                          have A := HA5.out.below hW
                                          obtain ⟨q0, q1, _, _⟩ := plcell A.pl
                                          obtain ⟨x0, x1⟩ := rqcell A.box
                                          exact ⟨A, HwV5.out.next hW, x0, x1, q0, q1⟩
                                        have HC : Hid (∀ W W', Below V5.heap.size V5 W → Chg (· = M) W W' → Below V5.heap.size V5 W') := fun W W' h1 h2 => h1.trans (h2.to_below h1.size (fun k hk => by omega))
                                        have HBM : Hid (Below V5.heap.size V5 (V5.alloc (.cells (zR (j + 1)) 79))) := bM
                                        clear bM
                                        go_upto_region 111 with fail
                                        go_upto_region 112 with ((with_reducible refine atAppend ?_); refine wpList_roomN rfl 70 (.tmp 495) (.tmp 498) rfl Yba.underlying70 Yba.info79 (b := M) (n := 0) (cap := j + 1) (n' := q) (vs := []) rfl (xv := .slice (some ⟨N3, 0, none⟩) q j) rfl HO0.out (m := q) (us := lc (qs.take q)) HS1.out (by omega) (by omega) ?_; intro w6 o6 c6)
                                        have b6 := HC.out _ _ HBM.out c6
                                        obtain ⟨A6, B6, z0, z1, z2, z3⟩ := HK.out _ b6
                                        have hR6 : R < w6.heap.size := block_lt_of_cell z0
                                        have o6' : OwnC w6 2 79 M q (j + 1) (lc (qs.take q)) := by simpa using o6
                                        have HO6 : Hid (OwnC w6 2 79 M q (j + 1) (lc (qs.take q))) := o6'
                                        have Hb6 : Hid (Below V5.heap.size V5 w6) := b6
                                        clear o6 o6' c6 b6 A6 B6 xr0 xr1 z2 z3 HO0 HS1 hmk
                                        go_upto_region 113 with ((with_reducible refine atAppend ?_); refine wpList_roomN rfl 70 (.tmp 500) (.tmp 502) rfl Yba.underlying70 Yba.info79 (b := M) (n := q) (cap := j + 1) (n' := q + 1) (vs := lc (qs.take q)) rfl (xv := .slice (some ⟨w6.heap.size, 0, none⟩) 1 1) rfl (HO6.out.below ((Below.refl _ _).alloc (Nat.le_refl _) _)) (m := 1) (us := [.pointer (some ⟨r.c, 0, none⟩), .int .u8 r.m]) (two_src rfl rfl (by simp) (by simp)) rfl (by omega) ?_; intro w7 o7 c7)
                                        have b7 := HC.out _ _ (Hb6.out.next ((Below.refl _ _).alloc (Nat.le_refl _) _)) c7
                                        have HO7 : Hid (OwnC w7 2 79 M (q + 1) (j + 1) (lc (qs.take q) ++ [.pointer (some ⟨r.c, 0, none⟩), .int .u8 r.m])) := o7
                                        have Hb7 : Hid (Below V5.heap.size V5 w7) := b7
                                        clear o7 c7 z0 z1
                                        have HFin : Hid (∀ w8, OwnC w8 2 79 M (j + 1) (j + 1) (lc (qs.take q) ++ [.pointer (some ⟨r.c, 0, none⟩), .int .u8 r.m] ++ lc (qs.drop q)) → Chg (· = M) w7 w8 → AfR sb hb mb pbF N2 N3 R kk j fr' hvF qv1 any es qs r w8 ∧ Below w.heap.size w w8 ∧ Reqs w8 (.slice (some ⟨M, 0, none⟩) (j + 1) (j + 1)) (insAt qs (insI r qs) r) ∧ w8.cell? ⟨pbF, 0, none⟩ = some hvF ∧ w8.cell? ⟨pbF, 1, none⟩ = some qv1) := by
                                          intro w8 o8 c8
                                          have b8 := HC.out _ _ Hb7.out c8
                                          obtain ⟨A, B, _, _, q0, q1⟩ := HK.out _ b8
                                          refine ⟨A, B, ?_, q0, q1⟩
                                          show Own w8 2 79 _ _ _
                                          rw [← HKI.out, insAt_len _ _ _ (by omega), hln2, insAt, lc_append, show lc (r :: qs.drop q) = [.pointer (some ⟨r.c, 0, none⟩), .int .u8 r.m] ++ lc (qs.drop q) from rfl, ← List.append_assoc]
                                          exact o8.own
                                        have HS3 : Hid (q ≠ j → Src Yba.prog 2 70 (.slice (some ⟨N3, q * 2, none⟩) (j - q) (j - q)) (j - q) (lc (qs.drop q)) w7) := fun _ => by
                                          have hp7 := HA5.out.pq.below b7
                                          refine lc_part hp7 (q * 2) (fun i v hv => ?_) (by rw [List.length_drop]; omega) _
                                          rw [lc_take_drop qs q, List.getElem?_append_right (by rw [lc_length, List.length_take]; omega), lc_length, List.length_take, show q * 2 + i - min q qs.length * 2 = i by omega, hv]
                                        have HS4 : Hid (Src Yba.prog 2 70 (.slice (some ⟨N3, 0, none⟩) 0 0) 0 [] w7) := Src.ofSlice w7 Yba.underlying70 ⟨N3, 0, none⟩ 0 0 [] rfl (fun i v hv => by simp at hv) (fun u hu => by cases hu)
                                        clear b7
                                        go_cut [49] from 504 to 508 (fun v wx => v = .slice (some ⟨M, 0, none⟩) (j + 1) (j + 1) ∧ OwnC wx 2 79 M (j + 1) (j + 1) (lc (qs.take q) ++ [.pointer (some ⟨r.c, 0, none⟩), .int .u8 r.m] ++ lc (qs.drop q)) ∧ Chg (· = M) w7 wx)
                                        case first => as_aux_lemma =>
                                          --<U
                                          by_cases hqj : q = j
                                          · have hdz : qs.drop q = [] := List.drop_of_length_le (by omega)
                                            have HDZ : Hid (qs.drop q = []) := hdz
                                            clear hdz
                                            subst hqj
                                            go_wp2_with ((with_reducible refine atAppend ?_); refine wpList_roomN rfl 70 (.tmp 504) (.tmp 507) rfl Yba.underlying70 Yba.info79 (b := M) (n := q + 1) (cap := q + 1) (n' := q + 1) (vs := lc (qs.take q) ++ [.pointer (some ⟨r.c, 0, none⟩), .int .u8 r.m]) rfl (xv := .slice (some ⟨N3, 0, none⟩) 0 0) rfl HO7.out (m := 0) (us := []) HS4.out rfl (by omega) ?_; intro w8 o8 c8)
                                            go_meet
                                            case rel => exact ⟨rfl, by rw [HDZ.out]; simpa [lc] using o8, c8⟩
                                          · have hjq : j ≠ q := fun h => hqj h.symm
                                            have HS5 : Hid (Src Yba.prog 2 70 (.slice (some ⟨N3, q * 2, none⟩) (j - q) (j - q)) (j - q) (lc (qs.drop q)) w7) := HS3.out hqj
                                            go_wp2_with ((with_reducible refine atAppend ?_); refine wpList_roomN rfl 70 (.tmp 504) (.tmp 507) rfl Yba.underlying70 Yba.info79 (b := M) (n := q + 1) (cap := j + 1) (n' := j + 1) (vs := lc (qs.take q) ++ [.pointer (some ⟨r.c, 0, none⟩), .int .u8 r.m]) rfl (xv := .slice (some ⟨N3, q * 2, none⟩) (j - q) (j - q)) rfl HO7.out (m := j - q) (us := lc (qs.drop q)) HS5.out (by omega) (by omega) ?_; intro w8 o8 c8)
                                            go_meet
                                            case rel => exact ⟨rfl, o8, c8⟩
                                          -->U
                                        case rest => as_aux_lemma =>
                                          obtain ⟨rfl, o8, c8⟩ := hcut
                                          obtain ⟨A8, B8, R8, q0, q1⟩ := HFin.out _ o8 c8
                                          obtain ⟨V6, hV6⟩ : ∃ V6, V6 = wc := ⟨_, rfl⟩
                                          subst hV6
                                          have HA8 : Hid (AfR sb hb mb pbF N2 N3 R kk j fr' hvF qv1 any es qs r V6) := A8
                                          have HB8 : Hid (Below w.heap.size w V6) := B8
                                          have HEq1 : Hid (Calls Yba.prog 23 #[hvF, .slice (some ⟨N2, 0, none⟩) kk kk] V6 fun e w' => e = .returned (.bool true) ∧ ∃ k, w' = V6.drewN k) := by
                                            refine eq_is hvF _ es V6 A8.hol ?_ (by have h8 := A8.len; omega)
                                            show Own _ 2 79 _ _ _
                                            rw [A8.len.1]
                                            exact A8.pe.own
                                          have HEq2 : Hid (∀ k, Calls Yba.prog 23 #[qv1, .slice (some ⟨M, 0, none⟩) (j + 1) (j + 1)] (V6.drewN k) fun e w' => e = .returned (.bool true) ∧ ∃ k', w' = (V6.drewN k).drewN k') := fun k => by
                                            have bk : Below V6.heap.size V6 (V6.drewN k) := ⟨rfl, rfl, rfl, Nat.le_refl _, fun _ _ => rfl⟩
                                            exact eq_is qv1 _ _ _ (A8.que.below bk) (R8.below bk) (by have h8 := A8.len; rw [insAt_len _ _ _ (insI_le r qs)]; omega)
                                          clear A8 B8 R8 o8 c8 HFin HK HC HO6 HO7 Hb6 Hb7 HS3 HS4 HBM
                                          go_wp2_with fail
                                          (with_reducible refine HEq1.out.mono ?_)
                                          rintro e w9 ⟨rfl, k9, rfl⟩
                                          go_wp2_with fail
                                          (with_reducible refine (HEq2.out k9).mono ?_)
                                          rintro e w10 ⟨rfl, k10, hw10⟩
                                          have b10 : Below V6.heap.size V6 w10 := by rw [hw10]; exact ⟨rfl, rfl, rfl, Nat.le_refl _, fun _ _ => rfl⟩
                                          have HA10 : Hid (AfR sb hb mb pbF N2 N3 R kk j fr' hvF qv1 any es qs r w10) := HA8.out.below b10
                                          have HB10 : Hid (Below w.heap.size w w10) := HB8.out.next b10
                                          clear hw10 b10 HA8 HB8 q0 q1 HEq1 HEq2
                                          have g2 : w10.cell? ⟨hb, 2, none⟩ = some (.int .i64 0) := by rw [cell_of_row _ _ _ _ _ _ HA10.out.site.host]; rfl
                                          have g4 : w10.cell? ⟨hb, 4, none⟩ = some (.int .i64 0) := by rw [cell_of_row _ _ _ _ _ _ HA10.out.site.host]; rfl
                                          have g5 : w10.cell? ⟨hb, 5, none⟩ = some (.int .i64 0) := by rw [cell_of_row _ _ _ _ _ _ HA10.out.site.host]; rfl
                                          have g6 : w10.cell? ⟨hb, 6, none⟩ = some (.int .i64 0) := by rw [cell_of_row _ _ _ _ _ _ HA10.out.site.host]; rfl
                                          have k4 : w10.cell? ⟨r.c, 4, none⟩ = some (.int .i64 0) := by rw [HA10.out.coh.cell]; rfl
                                          have k5 : w10.cell? ⟨r.c, 5, none⟩ = some (.bool true) := by rw [HA10.out.coh.cell]; rfl
                                          have k10' : w10.cell? ⟨r.c, 10, none⟩ = some nilV := by rw [HA10.out.coh.cell]; rfl
                                          go_wp2
                                          go_ret
                                          exact ⟨rfl, HB10.out⟩
                                  -->S
                                | true =>
                                  as_aux_lemma => --<R
                                  have hbo : headOK r qs = true ∧ ok = true := by
                                    have h9 := HG.out
                                    simpa using h9.symm
                                  have HGf : Hid (∃ hv1 lv', AfG sb hb mb pbF N2 N3 R kk j fr' qvF hv1 lv' u31 u32 u33 any es qs vs ls r V3) := by
                                    rcases HA.out with ⟨vs', ls', hv1, lv', g1, g2, _, G⟩ | ⟨_, h9, _⟩
                                    · have h10 := HTk.out hbo.2
                                      rw [h10] at g2
                                      injection g2 with g2
                                      injection g2 with g3 g4
                                      subst g3 g4
                                      obtain ⟨vs2, ls2, e1, e2, hvx, hlx, _, _⟩ := tk_spec r es [] [] vs ls h10
                                      simp only [List.nil_append] at e1 e2
                                      subst e1 e2
                                      have bd : Below Wq.heap.size Wq Wq.drew := (Below.refl _ _).drew
                                      have hs8 : ∀ b, W8.heap.size ≤ b → b < Wq.heap.size → ¬ Touch sb hb mb pbF fr hvF qvF es r b := fun b h1 h2 => HNT.out b (by omega) (by omega) (by omega) h2
                                      have Sg := G.site
                                      rw [← HAny.out] at Sg
                                      have L := HL10.out
                                      have A11 : AfG sb hb mb pbF N2 N3 R kk j fr' qvF hv1 lv' u31 u32 u33 any es qs vs ls r w11 :=
                                        ⟨G.pl, G.hol, G.que, Sg, G.coh, G.lend, G.loan, G.vict, G.isC, (HW10.out.pe.below bd).chg G.chg (HNT.out N2 (by omega) (by omega) (by omega) (by omega)), (HW10.out.pq.below bd).chg G.chg (HNT.out N3 (by omega) (by omega) (by omega) (by omega)), G.chg.heap (a := Wq.drew) HX10.out (HNT.out R (by omega) (by omega) (by omega) (by omega)), (L.vict.below bd).chg G.chg (fun b hb' => hs8 b (L.newV b hb').1 (Own.lt L.vict hb')), (L.lend.below bd).chg G.chg (fun b hb' => hs8 b (L.newL b hb').1 (Own.lt L.lend hb')), Own.chg (Own.chg L.phs (Chg.of_below (S := fun _ => False) bd) (fun _ _ h => h)) G.chg (fun b hb' => hs8 b (L.newP b hb') (Own.lt L.phs hb')), hvx, hlx, HW10.out.len⟩
                                      exact ⟨hv1, lv', A11.below HB23.out⟩
                                    · injection h9 with h9
                                      injection h9 with h9
                                      cases h9
                                  obtain ⟨hv1, lv', HGg⟩ := HGf.out
                                  have HGf : Hid (AfG sb hb mb pbF N2 N3 R kk j fr' qvF hv1 lv' u31 u32 u33 any es qs vs ls r V3) := HGg
                                  clear HGg HA HG HTk HNT HL10 HW10 HX10 HB23 HVB HAny HLk hbo
                                  obtain ⟨M, hM⟩ : ∃ M, V3.heap.size = M := ⟨_, rfl⟩
                                  have hmk : ∀ W : World, (Instr.makeSlice 70 (.int .i64 0) (.int .i64 ((kk : Int) + 1))).run Yba.prog W = .ok (.slice (some ⟨W.heap.size, 0, none⟩) 0 (kk + 1)) (W.alloc (.cells (zR (kk + 1)) 79)) := fun W => by
                                    have h9 := make70_0 W (kk + 1) (by omega)
                                    rw [Int.natCast_add] at h9
                                    exact h9
                                  have HI4 : Hid (L4 M (kk + 1) 0 es vs 0 V3 (V3.alloc (.cells (zR (kk + 1)) 79))) := by
                                    have o1 := own70 V3 (kk + 1)
                                    rw [hM] at o1
                                    exact ⟨by rw [← hM]; exact (Below.refl _ _).alloc (Nat.le_refl _) _, by simp [hM], o1, Nat.le_refl _⟩
                                  go_wp2
                                  go_loopw [41, 318] (fun v41 i wr => ∃ (t n : Nat), t ≤ kk ∧ i = .int .i64 t ∧ v41 = .slice (some ⟨M, 0, none⟩) n (kk + 1) ∧ L4 M (kk + 1) t es vs n V3 wr) (fun _ i _ => kk - (intOf i).toNat)
                                  case atStart => exact ⟨0, 0, by omega, rfl, rfl, HI4.out⟩
                                  case round => as_aux_lemma =>
                                    obtain ⟨t, n, ht, rfl, rfl, D⟩ := hrel
                                    clear hmk HI4
                                    have bV : Below V3.heap.size V3 wr := by rw [hM]; exact D.bel
                                    have HGw : Hid (AfG sb hb mb pbF N2 N3 R kk j fr' qvF hv1 lv' u31 u32 u33 any es qs vs ls r wr) := HGf.out.below bV
                                    have hnt := D.le
                                    by_cases hlt : t < kk
                                    · as_aux_lemma => --<N
                                      obtain ⟨e, he⟩ : ∃ e, es[t]? = some e := ⟨_, List.getElem?_eq_getElem (by have := HGw.out.len.1; omega)⟩
                                      have hem := List.mem_of_getElem? he
                                      obtain ⟨y0, y1⟩ := HGw.out.pe.cells he
                                      have hNl : N2 < wr.heap.size := block_lt_of_cell y0
                                      have HIn : Hid (∀ A, Calls Yba.prog 22 #[u31, .pointer (some ⟨e.c, 0, none⟩)] (wr.alloc A) fun e' w' => e' = .returned (.bool (has vs e.c)) ∧ w' = wr.alloc A) := fun A => by
                                        have ba : Below wr.heap.size wr (wr.alloc A) := (Below.refl _ _).alloc (Nat.le_refl _) A
                                        exact in_is u31 vs e.c (wr.alloc A) (HGw.out.cv.below ba) (fun y hy => (HGw.out.isC y (HGw.out.vx.subset hy)).below ba) ((HGw.out.isC e hem).below ba) (by have := HGw.out.vx.length_le; have := HGw.out.len; omega)
                                      have HE : Hid (es[t]? = some e) := he
                                      have HD : Hid (L4 M (kk + 1) t es vs n V3 wr) := D
                                      have hsM := D.siz
                                      clear he hem D bV
                                      go_wp2_with fail
                                      (with_reducible refine (HIn.out _).mono ?_)
                                      rintro e1 w2 ⟨rfl, hw2⟩
                                      have hb2 : Below wr.heap.size wr w2 := by rw [hw2]; exact (Below.refl _ _).alloc (Nat.le_refl _) _
                                      have z0 : w2.cell? ⟨wr.heap.size, 0, none⟩ = some (.pointer (some ⟨e.c, 0, none⟩)) := by rw [hw2]; simp
                                      have z1 : w2.cell? ⟨wr.heap.size, 1, none⟩ = some (.int .u8 e.m) := by rw [hw2]; simp
                                      have HD2 : Hid (L4 M (kk + 1) t es vs n V3 w2) := HD.out.below hb2
                                      clear hw2 y0 y1
                                      cases hh : has vs e.c with
                                      | true =>
                                        have HF : Hid (L4 M (kk + 1) (t + 1) es vs n V3 w2) := HD2.out.skip HE.out hh
                                        go_wp2
                                        go_roundw
                                        case rel => exact ⟨t + 1, n, by omega, by go_num, rfl, HF.out⟩
                                        case measure => simp [intOf]; omega
                                      | false =>
                                        go_wp2_with ((with_reducible refine atAppend ?_); refine wpList_room rfl 70 (.tmp 327) (.tmp 329) rfl Yba.underlying70 Yba.info79 (b := M) (n := n) (cap := kk + 1) (vs := lc ((es.take t).filter (fun x => !has vs x.c))) rfl (xv := .slice (some ⟨w2.heap.size, 0, none⟩) 1 1) rfl (HD2.out.own.below ((Below.refl _ _).alloc (Nat.le_refl _) _)) (m := 1) (us := [.pointer (some ⟨e.c, 0, none⟩), .int .u8 e.m]) (two_src rfl rfl (by simp) (by simp)) (by omega) ?_; intro w5 o5 c5)
                                        go_roundw
                                        case rel => exact ⟨t + 1, n + 1, by omega, by go_num, rfl, HD2.out.add HE.out hh ((Below.refl _ _).alloc (Nat.le_refl _) _) o5 c5⟩
                                        case measure => simp [intOf]; omega
                                      -->N
                                    · as_aux_lemma =>
                                      obtain rfl : t = kk := by omega
                                      obtain ⟨V4, hV4⟩ : ∃ V4, V4 = wr := ⟨_, rfl⟩
                                      subst hV4
                                      have HD4 : Hid (L4 M (t + 1) t es vs n V3 V4) := D
                                      have hsM := D.siz
                                      have HwV4 : Hid (Below w.heap.size w V4) := HwV.out.next bV
                                      have HOw : Hid (OwnC V4 2 79 M n (t + 1) (lc (es.filter (fun x => !has vs x.c)))) := by
                                        have h9 := D.own
                                        rw [List.take_of_length_le (by have := HGw.out.len.1; omega)] at h9
                                        exact h9
                                      have hln : (es.filter (fun x => !has vs x.c)).length = n := by
                                        have h9 := HOw.out.1
                                        rw [lc_length] at h9
                                        omega
                                      have HLn : Hid ((es.filter (fun x => !has vs x.c)).length = n) := hln
                                      obtain ⟨xr0, xr1⟩ := rqcell HGw.out.box
                                      have hRl4 : R < V4.heap.size := block_lt_of_cell xr0
                                      -- behind the append of r
                                      have HQ : Hid (∀ A w5, OwnC w5 2 79 M (n + 1) (t + 1) (lc (es.filter (fun x => !has vs x.c)) ++ [.pointer (some ⟨r.c, 0, none⟩), .int .u8 r.m]) → Chg (· = M) (V4.alloc A) w5 → AfG sb hb mb pbF N2 N3 R t j fr' qvF hv1 lv' u31 u32 u33 any es qs vs ls r w5 ∧ Below w.heap.size w w5 ∧ Reqs w5 (.slice (some ⟨M, 0, none⟩) (n + 1) (t + 1)) (es.filter (fun x => !has vs x.c) ++ [r]) ∧ w5.cell? ⟨pbF, 0, none⟩ = some hv1 ∧ w5.cell? ⟨pbF, 1, none⟩ = some qvF) := by
                                        intro A w5 o5 c5
                                        have bA : Below V4.heap.size V4 (V4.alloc A) := (Below.refl _ _).alloc (Nat.le_refl _) A
                                        have b5 : Below V3.heap.size (V4.alloc A) w5 := c5.to_below (by have := bV.size; have := bA.size; omega) (fun q hq => by omega)
                                        have b35 : Below V3.heap.size V3 w5 := (bV.next bA).trans b5
                                        have A5 := HGf.out.below b35
                                        obtain ⟨q0, q1, _, _⟩ := plcell A5.pl
                                        refine ⟨A5, HwV.out.next b35, ?_, q0, q1⟩
                                        show Own w5 2 79 _ _ _
                                        rw [List.length_append, lc_append, HLn.out]
                                        exact o5.own
                                      clear D bV hln
                                      go_upto_region 80 with fail
                                      go_upto_region 81 with ((with_reducible refine atAppend ?_); refine wpList_room rfl 70 (.tmp 332) (.tmp 334) rfl Yba.underlying70 Yba.info79 (b := M) (n := n) (cap := t + 1) (vs := lc (es.filter (fun x => !has vs x.c))) rfl (xv := .slice (some ⟨V4.heap.size, 0, none⟩) 1 1) rfl (HOw.out.below ((Below.refl _ _).alloc (Nat.le_refl _) _)) (m := 1) (us := [.pointer (some ⟨r.c, 0, none⟩), .int .u8 r.m]) (two_src rfl rfl (by simp) (by simp)) (by omega) ?_; intro w5 o5 c5)
                                      obtain ⟨A5, B5, R5, q0, q1⟩ := HQ.out _ _ o5 c5
                                      have HA5 : Hid (AfG sb hb mb pbF N2 N3 R t j fr' qvF hv1 lv' u31 u32 u33 any es qs vs ls r w5) := A5
                                      have HB5 : Hid (Below w.heap.size w w5) := B5
                                      have HEq1 : Hid (Calls Yba.prog 23 #[hv1, .slice (some ⟨M, 0, none⟩) (n + 1) (t + 1)] w5 fun e w' => e = .returned (.bool true) ∧ ∃ k, w' = w5.drewN k) := eq_is hv1 _ _ w5 A5.hol R5 (by have h9 := HLn.out; have h8 := A5.len; rw [List.length_append]; simp; omega)
                                      have HEq2 : Hid (∀ k, Calls Yba.prog 23 #[qvF, .slice (some ⟨N3, 0, none⟩) j j] (w5.drewN k) fun e w' => e = .returned (.bool true) ∧ ∃ k', w' = (w5.drewN k).drewN k') := fun k => by
                                        have bk : Below w5.heap.size w5 (w5.drewN k) := ⟨rfl, rfl, rfl, Nat.le_refl _, fun _ _ => rfl⟩
                                        refine eq_is qvF _ qs _ (A5.que.below bk) ?_ (by have h8 := A5.len; omega)
                                        show Own _ 2 79 _ _ _
                                        rw [A5.len.2.1]
                                        exact (A5.pq.below bk).own
                                      clear A5 B5 R5 o5 c5 HQ xr0 xr1 HD4 HOw HGw HwV4
                                      go_wp2_with fail
                                      (with_reducible refine HEq1.out.mono ?_)
                                      rintro e w6 ⟨rfl, k6, rfl⟩
                                      go_wp2_with fail
                                      (with_reducible refine (HEq2.out k6).mono ?_)
                                      rintro e w7 ⟨rfl, k7, hw7⟩
                                      have b57 : Below w5.heap.size w5 w7 := by rw [hw7]; exact ⟨rfl, rfl, rfl, Nat.le_refl _, fun _ _ => rfl⟩
                                      have HA7 : Hid (AfG sb hb mb pbF N2 N3 R t j fr' qvF hv1 lv' u31 u32 u33 any es qs vs ls r w7) := HA5.out.below b57
                                      have HB7 : Hid (Below w.heap.size w w7) := HB5.out.next b57
                                      clear hw7 b57 HA5 HB5 q0 q1 HEq1 HEq2
                                      have g2 : w7.cell? ⟨hb, 2, none⟩ = some (.int .i64 1) := by rw [cell_of_row _ _ _ _ _ _ HA7.out.site.host]; rfl
                                      have g3 : w7.cell? ⟨hb, 3, none⟩ = some (.int .i64 0) := by rw [cell_of_row _ _ _ _ _ _ HA7.out.site.host]; rfl
                                      have g4 : w7.cell? ⟨hb, 4, none⟩ = some (.int .i64 (boOf ls)) := by rw [cell_of_row _ _ _ _ _ _ HA7.out.site.host]; rfl
                                      have k4 : w7.cell? ⟨r.c, 4, none⟩ = some (.int .i64 1) := by rw [HA7.out.coh.cell]; rfl
                                      have k5 : w7.cell? ⟨r.c, 5, none⟩ = some (.bool false) := by rw [HA7.out.coh.cell]; rfl
                                      have k10 : w7.cell? ⟨r.c, 10, none⟩ = some lv' := by rw [HA7.out.coh.cell]; rfl
                                      go_upto_region 85 with fail
                                      go_cut [395] from 377 to 394 (fun v wx => v = .bool false ∧ Below w7.heap.size w7 wx)
                                      case first => as_aux_lemma =>
                                        --<O
                                        obtain ⟨ao3, cap3, h32⟩ := HA7.out.cl.len
                                        obtain ⟨ao4, cap4, h10⟩ := HA7.out.lend.len
                                        rw [h10] at k10
                                        by_cases hm : 0 < ls.length
                                        · have hbo1 : boOf ls = 1 := by unfold boOf; rw [if_neg (by omega)]
                                          rw [hbo1] at g4
                                          have HB2 : Hid (∀ W, Calls Yba.prog 21 #[.bool true] W fun e w' => e = .returned (.int .i64 1) ∧ w' = W) := b2i_is true
                                          obtain ⟨m, hmm⟩ : ∃ m, ls.length = m := ⟨_, rfl⟩
                                          rw [hmm] at h32 k10 hm
                                          clear h10 hbo1 hmm g2 g3 k4 k5
                                          subst h32
                                          go_quiet (first | (go_at_call 21; refine Calls.quiet_of_same (HB2.out _)))
                                          go_wp2
                                          go_meet
                                          case rel => exact ⟨rfl, rfl, rfl, rfl, Nat.le_refl _, fun _ _ => rfl⟩
                                        · have hbo1 : boOf ls = 0 := by unfold boOf; rw [if_pos (by omega)]
                                          rw [hbo1] at g4
                                          have HB2 : Hid (∀ W, Calls Yba.prog 21 #[.bool false] W fun e w' => e = .returned (.int .i64 0) ∧ w' = W) := b2i_is false
                                          obtain ⟨m, hmm⟩ : ∃ m, ls.length = m := ⟨_, rfl⟩
                                          rw [hmm] at h32 k10 hm
                                          clear h10 hbo1 hmm g2 g3 k4 k5
                                          subst h32
                                          go_quiet (first | (go_at_call 21; refine Calls.quiet_of_same (HB2.out _)))
                                          go_wp2
                                          go_meet
                                          case rel => exact ⟨rfl, rfl, rfl, rfl, Nat.le_refl _, fun _ _ => rfl⟩
                                        -->O
                                      case rest => as_aux_lemma =>
                                        obtain ⟨rfl, hb8⟩ := hcut
                                        obtain ⟨V8, hV8⟩ : ∃ V8, V8 = wc := ⟨_, rfl⟩
                                        subst hV8
                                        have HA8 : Hid (AfG sb hb mb pbF N2 N3 R t j fr' qvF hv1 lv' u31 u32 u33 any es qs vs ls r V8) := HA7.out.below hb8
                                        have HB8 : Hid (Below w.heap.size w V8) := HB7.out.next hb8
                                        clear g2 g3 g4 k4 k5 k10 hb8 HA7 HB7
                                        obtain ⟨ao3, cap3, h32⟩ := HA8.out.cl.len
                                        obtain ⟨nl, hnl⟩ : ∃ nl, ls.length = nl := ⟨_, rfl⟩
                                        have HNl : Hid (ls.length = nl) := hnl
                                        rw [hnl] at h32
                                        have hl1 : nl ≤ 1024 := by have h8 := HA8.out.len; have h9 := HA8.out.lx.length_le; omega
                                        clear hnl
                                        subst h32
                                        go_wp2
                                        go_loopw [398] (fun i wr => ∃ q : Nat, q ≤ nl ∧ i = .int .i64 q ∧ Below V8.heap.size V8 wr) (fun i _ => nl - (intOf i).toNat)
                                        case atStart => exact ⟨0, by omega, rfl, Below.refl _ _⟩
                                        case round => as_aux_lemma =>
                                          obtain ⟨q, hq, rfl, hBq⟩ := hrel
                                          have HAq : Hid (AfG sb hb mb pbF N2 N3 R t j fr' qvF hv1 lv' u31 (.slice ao3 nl cap3) u33 any es qs vs ls r wr) := HA8.out.below hBq
                                          by_cases hlt : q < nl
                                          · as_aux_lemma => --<P
                                            obtain ⟨y, hy⟩ : ∃ y, ls[q]? = some y := ⟨_, List.getElem?_eq_getElem (by have := HNl.out; omega)⟩
                                            have hym := List.mem_of_getElem? hy
                                            obtain ⟨b1, cp1, hE1, y1⟩ := HAq.out.cl.cells hy
                                            obtain ⟨b2, cp2, hE2, y2⟩ := HAq.out.lend.cells hy
                                            obtain ⟨lo, y3, hlo⟩ := HAq.out.loan y hym
                                            obtain ⟨b3, cp3, hE3, y4⟩ := hlo.cells (j := 0) (e := r) rfl
                                            have k10 : wr.cell? ⟨r.c, 10, none⟩ = some lv' := by rw [HAq.out.coh.cell]; rfl
                                            have ha3 : ao3 = some ⟨b1, 0, none⟩ := by injection hE1
                                            rw [HNl.out] at hE2
                                            simp only [List.length_singleton] at hE3
                                            rw [hE2] at k10
                                            rw [hE3] at y3
                                            have HBq : Hid (Below V8.heap.size V8 wr) := hBq
                                            have hn74 := neq74
                                            clear hE1 hE2 hE3 hlo hy hym hBq
                                            subst ha3
                                            go_upto_region 90 with fail
                                            go_cut [412] from 401 to 411 (fun v wx => v = .bool false ∧ Below wr.heap.size wr wx)
                                            case first => as_aux_lemma =>
                                              go_quiet (fail)
                                              go_wp2
                                              go_meet
                                              case rel => exact ⟨rfl, rfl, rfl, rfl, Nat.le_refl _, fun _ _ => rfl⟩
                                            case rest => as_aux_lemma =>
                                              obtain ⟨rfl, hbz⟩ := hcut
                                              obtain ⟨Wz, hWz⟩ : ∃ Wz, Wz = wc := ⟨_, rfl⟩
                                              subst hWz
                                              have z1 := hbz.keep y1
                                              have z3 := hbz.keep y3
                                              have z4 := hbz.keep y4
                                              have HBz : Hid (Below V8.heap.size V8 Wz) := HBq.out.next hbz
                                              clear y1 y2 y3 y4 k10 hbz
                                              go_wp2
                                              go_roundw
                                              case rel => exact ⟨q + 1, by omega, by go_num, HBz.out⟩
                                              case measure => simp [intOf]; omega
                                            -->P
                                          · as_aux_lemma =>
                                            obtain rfl : q = nl := by omega
                                            obtain ⟨V9, hV9⟩ : ∃ V9, V9 = wr := ⟨_, rfl⟩
                                            subst hV9
                                            have HB9 : Hid (Below w.heap.size w V9) := HB8.out.next hBq
                                            obtain ⟨ao5, cap5, h31⟩ := HAq.out.cv.len
                                            obtain ⟨nv, hnv⟩ : ∃ nv, vs.length = nv := ⟨_, rfl⟩
                                            have HNv : Hid (vs.length = nv) := hnv
                                            rw [hnv] at h31
                                            have hv1' : nv ≤ 1024 := by have h8 := HAq.out.len; have h9 := HAq.out.vx.length_le; omega
                                            clear hnv hBq
                                            subst h31
                                            go_wp2
                                            go_loopw [45, 438] (fun v45 i wr => ∃ z : Nat, z ≤ nv ∧ i = .int .i64 z ∧ v45 = .int .i64 (told (vs.take z)) ∧ Below V9.heap.size V9 wr) (fun _ i _ => nv - (intOf i).toNat)
                                            case atStart => exact ⟨0, by omega, rfl, rfl, Below.refl _ _⟩
                                            case round => as_aux_lemma =>
                                              obtain ⟨z, hz, rfl, rfl, hBz⟩ := hrel
                                              have HAz : Hid (AfG sb hb mb pbF N2 N3 R t j fr' qvF hv1 lv' (.slice ao5 nv cap5) (.slice ao3 q cap3) u33 any es qs vs ls r wr) := HAq.out.below hBz
                                              have htl : told (vs.take z) ≤ 1024 := by have h9 := told_le (vs.take z); rw [List.length_take] at h9; omega
                                              by_cases hlt : z < nv
                                              · as_aux_lemma => --<Q
                                                obtain ⟨y, hy⟩ : ∃ y, vs[z]? = some y := ⟨_, List.getElem?_eq_getElem (by have := HNv.out; omega)⟩
                                                have hym := List.mem_of_getElem? hy
                                                obtain ⟨b1, cp1, hE1, y1⟩ := HAz.out.cv.cells hy
                                                obtain ⟨b2, cp2, hE2, y2⟩ := own80_cell HAz.out.ph hy
                                                have y3 := HAz.out.vict y hym
                                                have htk := told_take hy
                                                have ha5 : ao5 = some ⟨b1, 0, none⟩ := by injection hE1
                                                rw [HNv.out] at hE2
                                                have HBz : Hid (Below V9.heap.size V9 wr) := hBz
                                                clear hE1 hy hym hBz
                                                subst ha5
                                                subst hE2
                                                by_cases hp : y.ph = 2
                                                · rw [if_pos hp, Nat.add_zero] at htk
                                                  have HTK : Hid (told (vs.take (z + 1)) = told (vs.take z)) := htk
                                                  rw [hp] at y2
                                                  have y4 : wr.cell? ⟨y.c, 3, none⟩ = some (.int .u8 3) := by rw [y3, hp]; rfl
                                                  clear htk y3 hp
                                                  go_wp2
                                                  go_roundw
                                                  case rel => exact ⟨z + 1, by omega, by go_num, by rw [HTK.out], HBz.out⟩
                                                  case measure => simp [intOf]; omega
                                                · rw [if_neg hp] at htk
                                                  have HTK : Hid (told (vs.take (z + 1)) = told (vs.take z) + 1) := htk
                                                  have y4 : wr.cell? ⟨y.c, 3, none⟩ = some (.int .u8 11) := by rw [y3]; unfold deadPh; rw [if_neg hp]
                                                  have hp2 : (y.ph == 2) = false := by simpa using hp
                                                  clear htk y3 hp
                                                  go_wp2
                                                  go_roundw
                                                  case rel => exact ⟨z + 1, by omega, by go_num, by rw [HTK.out]; go_num, HBz.out⟩
                                                  case measure => simp [intOf]; omega
                                                -->Q
                                              · as_aux_lemma =>
                                                obtain rfl : z = nv := by omega
                                                have g5 : wr.cell? ⟨hb, 5, none⟩ = some (.int .i64 (told vs)) := by rw [cell_of_row _ _ _ _ _ _ HAz.out.site.host]; rfl
                                                have g6 : wr.cell? ⟨hb, 6, none⟩ = some (.int .i64 (told vs)) := by rw [cell_of_row _ _ _ _ _ _ HAz.out.site.host]; rfl
                                                rw [List.take_of_length_le (by have := HNv.out; omega)]
                                                have HBz : Hid (Below V9.heap.size V9 wr) := hBz
                                                clear hBz htl
                                                go_wp2
                                                go_ret
                                                exact ⟨rfl, HB9.out.next HBz.out⟩
                                  -->R
end Go.Proofs.Ybulkboha
