import Derived.Test.YbulkbohaLg
namespace Go.Proofs.Ybulkboha
open Go.RowKit
set_option linter.unusedVariables false
set_option linter.unusedSimpArgs false

/-- append(s[:i], make([]S, k)...) where there is no room. -/
theorem run_appz (w : World) (ty : TypeId) (b i n k : Nat) (olds : List Value) (hl : olds.length = i * 2) (hold : ∀ j u, olds[j]? = some u → w.cell? ⟨b, j, none⟩ = some u) (hk : n < i + k) (hlim : i + k ≤ 4096) (h0 : 0 < k) :
    ∃ C, ∃ Z : List Value, (Builtin.append_ #[70, 3] ty #[.slice (some ⟨b, 0, none⟩) i n, .int .i64 k]).run Yba.prog w = .ok (.slice (some ⟨w.heap.size, 0, none⟩) (i + k) C) (w.drew.alloc (.cells (olds ++ Z).toArray 79)) ∧ i + k ≤ C ∧ Z.length = (C - i) * 2 := by
  obtain ⟨i0, hi, hz0, hz1, hz2⟩ := info_parts Yba.info79
  have hold' : (Builtin.firstCells 2 i (.slice (some ⟨b, 0, none⟩) i n)).run Yba.prog w.drew = .ok olds.toArray w.drew := by
    refine run_firstCells_some w.drew 2 i ⟨b, 0, none⟩ i n olds (by rw [hl]) ?_
    intro j u hu
    rw [Addr.add_lit, Nat.zero_add]
    exact hold j u hu
  have hn : ¬ (i + k ≤ n) := by omega
  have h63' : ¬ (9223372036854775807 < ((i : Int) + (k : Int))) := by omega
  have hfit : Builtin.nextslicecap (i + k) n * 16 ≤ 281474976710656 := growslice_fits hk (by omega)
  have h48' : ¬ (281474976710656 < Builtin.nextslicecap (i + k) n * 16) := by omega
  have hwr : IntKind.i64.wrap (k : Int) = (k : Int) := by rw [IntKind.wrap_i64]; omega
  have hneg : ¬ ((k : Int) < 0) := by omega
  have h48 : ¬ (281474976710656 < (k : Int) * 16) := by omega
  have hks : ¬ (k = 0) := by omega
  have hC := grownCap_ge w (i + k) n 79
  refine ⟨grownCap w (i + k) n 79, (Builtin.zeroCells (Value.agg #[.pointer none, .int .u8 0]).cells k).toList ++ (Builtin.zeroCells (Value.agg #[.pointer none, .int .u8 0]).cells (grownCap w (i + k) n 79 - (i + k))).toList, ?_, hC, ?_⟩
  · simp [Builtin.append_, run_underlying Yba.underlying70, run_underlying Yba.underlying3, sizeOf, typeInfo, zeroValue, hi, hz0, hz1, hz2, hn, h63', h48', h48, hwr, hneg, hks, asInt, asIntOf, Question.forced, hold', newRow, grownCap]
    rw [if_neg (by omega)]
    refine congrArg (fun arr => Result.ok (Value.slice (some ⟨w.heap.size, 0, none⟩) (i + k) ((Question.appendCap (i + k) n 79).cut (w.tape w.drawn (Question.appendCap (i + k) n 79)))) (w.drew.alloc (Obj.cells arr 79))) ?_
    apply Array.ext'
    simp
  · rw [List.length_append, Array.length_toList, Array.length_toList, size_zeroCells, size_zeroCells]
    show k * 2 + (_ - (i + k)) * 2 = _
    omega

theorem wpList_appz {ops : Array Oper} {rest : List Oper} {o : Oper} {a : Act} {w : World} {Q : Exit → Act → World → Prop} (hgd : o.guard = none) (sl x : Operand)
    (ho : o.op = .call { callee := .builtin .append, args := #[sl, x], argTypes := #[70, 3] }) (b i n k L : Nat) (kz : Int) (olds : List Value) (hsl : a.eval sl = .slice (some ⟨b, 0, none⟩) i n) (hx : a.eval x = .int .i64 kz) (hkz : kz = (k : Int)) (hL : i + k = L)
    (hl : olds.length = i * 2) (hold : ∀ j u, olds[j]? = some u → w.cell? ⟨b, j, none⟩ = some u) (hk : n < L) (hlim : L ≤ 4096) (h0 : 0 < k)
    (h : ∀ C Z, L ≤ C → Z.length = (C - i) * 2 → wpList Yba.prog ops Q rest (a.put o.dst (.slice (some ⟨w.heap.size, 0, none⟩) L C)) (w.drew.alloc (.cells (olds ++ Z).toArray 79))) : wpList Yba.prog ops Q (o :: rest) a w := by
  subst hL hkz
  refine wpList_plain hgd fun K hK => ?_
  obtain ⟨C, Z, hrun, h1, h2⟩ := run_appz w o.type b i n k olds hl hold hk hlim h0
  have h' := h C Z h1 h2
  unfold Oper.wp
  simp [execOp, ho, resolve, invoke, builtin, hsl, hx, hrun, Result.andThen]
  exact hK _ _ h'

/-- copy of requests. -/
theorem run_cpy (w : World) (ty : TypeId) (g o dLen dCap : Nat) (ab ao : Nat) (sLen sCap : Nat) (cur cs : List Value) (hg : Flat w g 79 cur) (hn : cs.length = sLen * 2) (hm : sLen ≤ dLen)
    (hsrc : ∀ j v, cs[j]? = some v → w.cell? ⟨ab, ao + j, none⟩ = some v) (hfit : o + cs.length ≤ cur.length) (h1 : ∀ v ∈ cs, v.oneCell' = true) :
    (Builtin.copy_ #[70, 70] ty #[.slice (some ⟨g, o, none⟩) dLen dCap, .slice (some ⟨ab, ao, none⟩) sLen sCap]).run Yba.prog w = .ok (goInt sLen) (w.setCells g o cs) := by
  obtain ⟨i0, hi, hz0, hz1, hz2⟩ := info_parts Yba.info79
  have hst := run_storeCells_cells (P := Yba.prog) g o cs 0 w (fun j hj => by rw [hg.cell, List.getElem?_eq_getElem (by omega)]; rfl) (fun j hj => hg.free _) h1
  simp only [Nat.add_zero] at hst
  have hf : (Builtin.firstCells 2 sLen (.slice (some ⟨ab, ao, none⟩) sLen sCap)).run Yba.prog w = .ok cs.toArray w := run_firstCells_some w 2 sLen ⟨ab, ao, none⟩ sLen sCap cs hn (fun j v hv => by rw [Addr.add_lit]; exact hsrc j v hv)
  have hmn : Nat.min sLen dLen = sLen := Nat.min_eq_left hm
  simp [Builtin.copy_, run_underlying Yba.underlying70, Builtin.lenOf, sizeOf, typeInfo, hi, hz1, hmn, hf, hst]
theorem wpList_cpy {ops : Array Oper} {rest : List Oper} {o : Oper} {a : Act} {w : World} {Q : Exit → Act → World → Prop} (hgd : o.guard = none) (d s : Operand)
    (ho : o.op = .call { callee := .builtin .copy, args := #[d, s], argTypes := #[70, 70] }) (g of dLen dCap ab ao sLen sCap : Nat) (cur cs : List Value)
    (hd : a.eval d = .slice (some ⟨g, of, none⟩) dLen dCap) (hs : a.eval s = .slice (some ⟨ab, ao, none⟩) sLen sCap) (hg : Flat w g 79 cur) (hn : cs.length = sLen * 2) (hm : sLen ≤ dLen)
    (hsrc : ∀ j v, cs[j]? = some v → w.cell? ⟨ab, ao + j, none⟩ = some v) (hfit : of + cs.length ≤ cur.length) (h1 : ∀ v ∈ cs, v.oneCell' = true)
    (h : wpList Yba.prog ops Q rest (a.put o.dst (goInt sLen)) (w.setCells g of cs)) : wpList Yba.prog ops Q (o :: rest) a w := by
  refine wpList_plain hgd fun K hK => ?_
  have hrun := run_cpy w o.type g of dLen dCap ab ao sLen sCap cur cs hg hn hm hsrc hfit h1
  unfold Oper.wp
  simp [execOp, ho, resolve, invoke, builtin, hd, hs, hrun, Result.andThen]
  exact hK _ _ h
theorem step_cpy {ops : Array Oper} {o : Oper} {a : Act} {w : World} {K : Act → World → Prop} {Q : Exit → Act → World → Prop} {E : Prop} (hgd : o.guard = none) (d s : Operand)
    (ho : o.op = .call { callee := .builtin .copy, args := #[d, s], argTypes := #[70, 70] }) (g of dLen dCap ab ao sLen sCap : Nat) (cur cs : List Value)
    (hd : a.eval d = .slice (some ⟨g, of, none⟩) dLen dCap) (hs : a.eval s = .slice (some ⟨ab, ao, none⟩) sLen sCap) (hg : Flat w g 79 cur) (hn : cs.length = sLen * 2) (hm : sLen ≤ dLen)
    (hsrc : ∀ j v, cs[j]? = some v → w.cell? ⟨ab, ao + j, none⟩ = some v) (hfit : of + cs.length ≤ cur.length) (h1 : ∀ v ∈ cs, v.oneCell' = true)
    (h : K (a.put o.dst (goInt sLen)) (w.setCells g of cs)) :
    if Region.wanted o (yielded ops a.tmps) = true then Oper.wp Yba.prog o a w K Q else E := by
  have hw : Region.wanted o (yielded ops a.tmps) = true := by simp [Region.wanted, hgd]
  rw [if_pos hw]
  have hrun := run_cpy w o.type g of dLen dCap ab ao sLen sCap cur cs hg hn hm hsrc hfit h1
  unfold Oper.wp
  simp [execOp, ho, resolve, invoke, builtin, hd, hs, hrun, Result.andThen]
  exact h

theorem seg_put {A Z us : List Value} {o : Nat} (h : A.length = o) : (A ++ Z).take o ++ us ++ (A ++ Z).drop (o + us.length) = A ++ us ++ Z.drop us.length := by
  subst h
  rw [List.take_left, List.drop_append, List.drop_of_length_le (by omega), List.nil_append, show A.length + us.length - A.length = us.length by omega]
/-- r put in at i. -/
def insAt (qs : List Ent) (i : Nat) (r : Ent) : List Ent := qs.take i ++ (r :: qs.drop i)
theorem insAt_len (qs : List Ent) (i : Nat) (r : Ent) (h : i ≤ qs.length) : (insAt qs i r).length = qs.length + 1 := by simp [insAt]; omega

/-- what Insert gives. -/
def InsEnds (w : World) (qv : Value) (qs : List Ent) (i : Nat) (r : Ent) (e : Ending) (w' : World) : Prop :=
  ∃ v', e = .returned v' ∧ Reqs w' v' (insAt qs i r) ∧ Chg (InV qv) w w' ∧ (∀ b, InV v' b → InV qv b ∨ w.heap.size ≤ b)

set_option maxRecDepth 100000 in
set_option maxHeartbeats 1000000 in
theorem insert_is (qv : Value) (qs : List Ent) (i : Nat) (r : Ent) (xb : Nat) (w : World) (hq : Reqs w qv qs) (hcap : qv = nilV ∨ ∃ b, qv = .slice (some ⟨b, 0, none⟩) qs.length qs.length) (hi : i ≤ qs.length) (hlen : qs.length ≤ 1024)
    (h0 : w.cell? ⟨xb, 0, none⟩ = some (.pointer (some ⟨r.c, 0, none⟩))) (h1 : w.cell? ⟨xb, 1, none⟩ = some (.int .u8 r.m)) (hxq : ¬ InV qv xb) :
    Calls Yba.prog 35 #[qv, .int .i64 i, .slice (some ⟨xb, 0, none⟩) 1 1] w fun e w' => InsEnds w qv qs i r e w' := by
  have HQ : Hid (Reqs w qv qs) := hq
  have hsrc := two_src (w := w) (b := xb) rfl rfl h0 h1
  have HS : Hid (Src Yba.prog 2 70 (.slice (some ⟨xb, 0, none⟩) 1 1) 1 [.pointer (some ⟨r.c, 0, none⟩), .int .u8 r.m] w) := hsrc
  clear hsrc
  by_cases hin : i = qs.length
  · have HP : Hid (∀ v' w', Own w' 2 79 v' (qs.length + 1) (lc qs ++ [.pointer (some ⟨r.c, 0, none⟩), .int .u8 r.m]) → Reqs w' v' (insAt qs i r)) := fun v' w' o => by
      show Own w' 2 79 v' _ _
      rw [insAt_len _ _ _ hi, insAt, hin, List.take_length, List.drop_length, lc_append]
      exact o
    have HQ2 : Hid (Own w 2 79 qv qs.length (lc qs)) := hq
    obtain ⟨ao, cap, hvE⟩ := hq.len
    have hcc : cap = qs.length := by
      rcases hcap with h | ⟨b, h⟩
      · rw [h] at hvE
        injection hvE with _ e1 e2
        omega
      · rw [h] at hvE; injection hvE with _ e1 e2; omega
    clear hcap hq HQ
    subst hcc
    subst hvE
    generalize hgn : qs.length = n at *
    subst hin
    go_enter Yba.func35, Yba.ntmps35
    go_wp2_with (refine wpList_app rfl 70 (.tmp 23) (.tmp 24) rfl Yba.underlying70 Yba.info79 rfl (by omega) (v := .slice ao i i) (n := i) (vs := lc qs) (xv := .slice (some ⟨xb, 0, none⟩) 1 1) (m := 1) (us := [.pointer (some ⟨r.c, 0, none⟩), .int .u8 r.m]) rfl rfl HQ2.out HS.out (.inl (by omega)) (by omega) ?_; intro v' w5 o5 c5 n5 z5)
    go_ret
    refine ⟨v', rfl, HP.out v' w5 o5, c5, fun b hb => ?_⟩
    rcases n5 with h | ⟨c, h⟩
    · exact .inl (h b hb)
    · obtain ⟨n', c', h'⟩ := hb
      rw [h] at h'
      cases h'
      exact .inr (Nat.le_refl _)
  · have hlt : i < qs.length := by omega
    obtain ⟨b, hqb⟩ : ∃ b, qv = .slice (some ⟨b, 0, none⟩) qs.length qs.length := by
      rcases hcap with h | h
      · obtain ⟨ao, cap, hvE⟩ := hq.len
        rw [h] at hvE
        injection hvE with _ e1 e2
        omega
      · exact h
    have hflat : Flat w b 79 (lc qs) := by
      rcases hq.2 with ⟨h, hz⟩ | ⟨b', cap, rest, h, h2, h3, h4⟩
      · omega
      · rw [hqb] at h
        injection h with e0 e1 e2
        injection e0 with e0
        injection e0 with e0 _ _
        have : rest = [] := List.eq_nil_of_length_eq_zero (by rw [h3, ← e2]; simp)
        rw [this, List.append_nil, ← e0] at h4
        exact h4
    have HF : Hid (Flat w b 79 (lc qs)) := hflat
    have hbl := hflat.lt
    have hxb : xb ≠ b := fun h => hxq (by rw [hqb, h]; exact inV_of rfl)
    have hxl : xb < w.heap.size := block_lt_of_cell h0
    clear hcap hq hflat HQ HS
    subst hqb
    generalize hgn : qs.length = n at *
    have HN : Hid (qs.length = n) := hgn
    have htl : (lc (qs.take i)).length = i * 2 := by rw [lc_length, List.length_take]; omega
    have hold : ∀ j u, (lc (qs.take i))[j]? = some u → w.cell? ⟨b, j, none⟩ = some u := by
      intro j u hu
      rw [HF.out.cell, lc_take_drop qs i, List.getElem?_append_left (List.getElem?_eq_some_iff.1 hu).1, hu]
    have HO : Hid (∀ j u, (lc (qs.take i))[j]? = some u → w.cell? ⟨b, j, none⟩ = some u) := hold
    have HTL : Hid ((lc (qs.take i)).length = i * 2) := htl
    clear hold htl
    have hne1 : ((i : Int) == (n : Int)) = false := beq_eq_false_iff_ne.2 (by omega)
    have hsub : (n : Int) + 1 - (i : Int) = ((n + 1 - i : Nat) : Int) := by omega
    have hsw : wrap64 ((n : Int) + 1 - (i : Int)) = ((n + 1 - i : Nat) : Int) := by unfold wrap64; omega
    have hsw1 : wrap64 ((n : Int) + 1) = ((n + 1 : Nat) : Int) := by unfold wrap64; omega
    go_enter Yba.func35, Yba.ntmps35
    -- the new row, the cell of r, the rest
    have HA : Hid (∀ C (Z : List Value), n + 1 ≤ C → Z.length = (C - i) * 2 → Flat (w.drew.alloc (.cells (lc (qs.take i) ++ Z).toArray 79)) w.heap.size 79 (lc (qs.take i) ++ Z)) := fun C Z _ _ => heap_alloc_new _ _
    have HX : Hid (∀ A j v, [Value.pointer (some ⟨r.c, 0, none⟩), .int .u8 r.m][j]? = some v → (w.drew.alloc A).cell? ⟨xb, 0 + j, none⟩ = some v) := by
      intro A j v hv
      have hB : Below w.heap.size w (w.drew.alloc A) := (Below.refl _ _).drew.alloc (Nat.le_refl _) _
      match j, hv with
      | 0, hv => simp at hv; subst hv; exact hB.keep h0
      | 1, hv => simp at hv; subst hv; exact hB.keep h1
      | j + 2, hv => simp at hv
    have HB : Hid (∀ C (Z : List Value), n + 1 ≤ C → Z.length = (C - i) * 2 → Flat ((w.drew.alloc (.cells (lc (qs.take i) ++ Z).toArray 79)).setCells w.heap.size (i * 2) [.pointer (some ⟨r.c, 0, none⟩), .int .u8 r.m]).drew w.heap.size 79 (lc (qs.take i) ++ lc [r] ++ Z.drop 2) ∧
        Below w.heap.size w ((w.drew.alloc (.cells (lc (qs.take i) ++ Z).toArray 79)).setCells w.heap.size (i * 2) [.pointer (some ⟨r.c, 0, none⟩), .int .u8 r.m]).drew) := by
      intro C Z hC hZ
      obtain ⟨f1, f2⟩ := flat_setCells w.heap.size 79 [.pointer (some ⟨r.c, 0, none⟩), .int .u8 r.m] (i * 2) _ _ (HA.out C Z hC hZ) (by rw [List.length_append, HTL.out, hZ]; simp; omega)
      rw [seg_put HTL.out] at f1
      refine ⟨f1, ?_⟩
      have hB : Below w.heap.size w (w.drew.alloc (.cells (lc (qs.take i) ++ Z).toArray 79)) := (Below.refl _ _).drew.alloc (Nat.le_refl _) _
      have hC2 := f2.to_below (N := w.heap.size) (by show w.heap.size ≤ _; simp) (fun k hk => by omega)
      exact (hB.trans hC2).drew
    have HD : Hid (∀ W, Below w.heap.size w W → ∀ j v, (lc (qs.drop i))[j]? = some v → W.cell? ⟨b, i * 2 + j, none⟩ = some v) := by
      intro W hW j v hv
      refine hW.keep ?_
      rw [HF.out.cell, lc_take_drop qs i, List.getElem?_append_right (by rw [HTL.out]; omega), HTL.out, show i * 2 + j - i * 2 = j by omega, hv]
    have HDL : Hid ((lc (qs.drop i)).length = (n - i) * 2) := by show _ = _; rw [lc_length, List.length_drop, HN.out]
    go_upto_region 11 with (first
      | (refine wpList_appz rfl (.tmp 34) (.tmp 39) rfl b i n (n + 1 - i) (n + 1) _ (lc (qs.take i)) rfl rfl (by omega) (by omega) HTL.out HO.out (by omega) (by omega) (by omega) ?_; intro C Z hC hZ)
      | (refine wpList_cpy rfl (.tmp 43) (.tmp 44) rfl w.heap.size (i * 2) (n + 1 - i) (C - i) xb 0 1 1 (lc (qs.take i) ++ Z) [.pointer (some ⟨r.c, 0, none⟩), .int .u8 r.m] rfl rfl (HA.out C Z hC hZ) rfl (by omega) (HX.out _) (by rw [List.length_append, HTL.out, hZ]; simp; omega) (by intro v hv; simp at hv; rcases hv with rfl | rfl <;> rfl) ?_))
    have FW : Flat ((w.alloc (.cells (lc (qs.take i) ++ Z).toArray 79)).drew.setCells w.heap.size (i * 2) [.pointer (some ⟨r.c, 0, none⟩), .int .u8 r.m]) w.heap.size 79 (lc (qs.take i) ++ lc [r] ++ Z.drop 2) := (HB.out C Z hC hZ).1
    have hBW := (HB.out C Z hC hZ).2
    have BW : Below w.heap.size w ((w.alloc (.cells (lc (qs.take i) ++ Z).toArray 79)).drew.setCells w.heap.size (i * 2) [.pointer (some ⟨r.c, 0, none⟩), .int .u8 r.m]) := ⟨hBW.os, hBW.tape, hBW.output, hBW.size, hBW.block⟩
    clear hBW HA HX HB
    generalize (w.alloc (.cells (lc (qs.take i) ++ Z).toArray 79)).drew.setCells w.heap.size (i * 2) [.pointer (some ⟨r.c, 0, none⟩), .int .u8 r.m] = W at *
    have HFW : Hid (Flat W.drew w.heap.size 79 (lc (qs.take i) ++ lc [r] ++ Z.drop 2)) := FW
    have HBW : Hid (Below w.heap.size w W) := BW
    have HDW : Hid (∀ j v, (lc (qs.drop i))[j]? = some v → W.drew.cell? ⟨b, i * 2 + j, none⟩ = some v) := HD.out W BW
    have hC1 : i + 1 ≤ C := by omega
    have hin1 : i + 1 ≤ n + 1 := by omega
    have hCi : C ≠ i + 1 := by omega
    have hni : n ≠ i := by omega
    have HFit : Hid ((i + 1) * 2 + (lc (qs.drop i)).length ≤ (lc (qs.take i) ++ lc [r] ++ Z.drop 2).length) := by
      show _ ≤ _
      rw [List.length_append, List.length_append, HTL.out, HDL.out, List.length_drop, hZ, lc_length]
      simp
      omega
    have hwi : IntKind.i64.wrap ((i : Int) + 1) = (i : Int) + 1 := by rw [IntKind.wrap_i64]; omega
    have htn : ((i : Int) + 1).toNat = i + 1 := by omega
    have hb1 : (0 : Int) ≤ (i : Int) + 1 := by omega
    have hb2 : (i : Int) + 1 ≤ (n : Int) + 1 := by omega
    clear FW BW h0 h1
    have hcp := run_cpy W.drew 3 w.heap.size ((i + 1) * 2) (n - i) (C - (i + 1)) b (i * 2) (n - i) (n - i) (lc (qs.take i) ++ lc [r] ++ Z.drop 2) (lc (qs.drop i)) HFW.out HDL.out (Nat.le_refl _) HDW.out HFit.out (lc_one _)
    have HE : Hid (InsEnds w (.slice (some ⟨b, 0, none⟩) n n) qs i r (.returned (.slice (some ⟨w.heap.size, 0, none⟩) (n + 1) C)) (W.drew.setCells w.heap.size ((i + 1) * 2) (lc (qs.drop i)))) := by
      obtain ⟨f1, f2⟩ := flat_setCells w.heap.size 79 (lc (qs.drop i)) ((i + 1) * 2) W.drew _ HFW.out HFit.out
      have hlA : (lc (qs.take i) ++ lc [r]).length = (i + 1) * 2 := by rw [List.length_append, HTL.out, lc_length]; simp; omega
      rw [seg_put hlA] at f1
      have hbz : Below w.heap.size W.drew (W.drew.setCells w.heap.size ((i + 1) * 2) (lc (qs.drop i))) := f2.to_below (by show w.heap.size ≤ W.heap.size; exact HBW.out.size) (fun k hk => by omega)
      refine ⟨_, rfl, ⟨by rw [lc_length], .inr ⟨w.heap.size, C, (Z.drop 2).drop (lc (qs.drop i)).length, ?_, ?_, ?_, ?_⟩⟩, Chg.of_below (HBW.out.drew.trans hbz), ?_⟩
      · rw [insAt_len _ _ _ (by omega), HN.out]
      · rw [insAt_len _ _ _ (by omega), HN.out]; omega
      · rw [insAt_len _ _ _ (by omega), HN.out, List.length_drop, List.length_drop, hZ, HDL.out]; omega
      · rw [insAt, lc_append, show lc (r :: qs.drop i) = lc [r] ++ lc (qs.drop i) from rfl]
        simpa using f1
      · rintro q ⟨n', c', h⟩
        cases h
        exact .inr (Nat.le_refl _)
    clear HFit HDW
    go_region
    all_goals go_wp2
    all_goals go_ret
    all_goals exact HE.out
end Go.Proofs.Ybulkboha
