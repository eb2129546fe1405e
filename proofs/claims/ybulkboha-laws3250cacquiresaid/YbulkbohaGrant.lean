import Derived.Test.YbulkbohaBor
namespace Go.Proofs.Ybulkboha
open Go.RowKit
set_option linter.unusedVariables false

/-- block b is none of the site's, the host's, the cohorts'. -/
def Off (sb hb : Nat) (xs : List Ent) (r : Ent) (b : Nat) : Prop := b ≠ hb ∧ b ≠ sb ∧ (∀ x ∈ xs, b + 2 < x.c ∨ x.c < b) ∧ (b + 2 < r.c ∨ r.c < b)
/-- how the blocks of a page's lock lie. -/
structure Geo (sb hb pb : Nat) (hv qv : Value) (xs : List Ent) (r : Ent) : Prop where
  far : Far xs
  low : ∀ x ∈ xs, hb + 2 < x.c ∧ sb + 2 < x.c ∧ x.c + 2 < r.c
  rlow : hb + 2 < r.c ∧ sb + 2 < r.c
  offP : Off sb hb xs r pb
  offH : ∀ b, InV hv b → Off sb hb xs r b ∧ b ≠ pb ∧ ¬ InV qv b
  offQ : ∀ b, InV qv b → Off sb hb xs r b ∧ b ≠ pb

structure G1 (w : World) (pb : Nat) (hv qv : Value) (r : Ent) (xs : List Ent) (wx : World) (hv1 : Value) : Prop where
  chg : Chg (fun k => k = pb ∨ InV hv k) w wx
  pl : wx.heap[pb]? = some (.cells #[hv1, qv] 72 (0, 0))
  rq : Reqs wx hv1 xs
  inn : ∀ b, InV hv1 b → InV hv b
  b0 : wx.heap[w.heap.size]? = some (.cells #[.pointer (some ⟨r.c, 0, none⟩), .int .u8 r.m] 79 (0, 0))

def boOf (ls : List Ent) : Int := if ls.length = 0 then 0 else 1
structure G2 (w : World) (sb hb mb pb : Nat) (fr ct hv qv : Value) (cf ac la bo se en ot ph : Int) (r : Ent) (xs ls : List Ent) (wx : World) (hv1 lv' : Value) : Prop where
  chg : Chg (fun k => k = pb ∨ InV hv k ∨ k = hb ∨ k = r.c ∨ ∃ y ∈ ls, k = y.c) w wx
  pl : wx.heap[pb]? = some (.cells #[hv1, qv] 72 (0, 0))
  rq : Reqs wx hv1 xs
  inn : ∀ b, InV hv1 b → InV hv b
  b0 : wx.heap[w.heap.size]? = some (.cells #[.pointer (some ⟨r.c, 0, none⟩), .int .u8 r.m] 79 (0, 0))
  site : Site wx sb hb mb fr cf ct ac la (bo + boOf ls) se en ot
  coh : Memb wx sb r ph 0 false lv' nilV
  lend : Cohs wx lv' ls
  newL : ∀ b, InV lv' b → w.heap.size < b
  loan : ∀ y ∈ ls, ∃ lo, Memb wx sb y y.ph 0 false nilV lo ∧ Cohs wx lo [r] ∧ ∀ b, InV lo b → w.heap.size < b

/-- what grant leaves. -/
structure Gr (w : World) (sb hb mb pb : Nat) (fr ct hv qv : Value) (cf ac la bo se en ot ph lk : Int) (r : Ent) (xs ls : List Ent) (wx : World) (hv1 lv' : Value) : Prop where
  chg : Chg (fun k => k = pb ∨ InV hv k ∨ k = hb ∨ k = r.c ∨ ∃ y ∈ ls, k = y.c) w wx
  pl : wx.heap[pb]? = some (.cells #[hv1, qv] 72 (0, 0))
  rq : Reqs wx hv1 (xs ++ [r])
  inn : ∀ b, InV hv1 b → InV hv b ∨ w.heap.size < b
  b0 : wx.heap[w.heap.size]? = some (.cells #[.pointer (some ⟨r.c, 0, none⟩), .int .u8 r.m] 79 (0, 0))
  site : Site wx sb hb mb fr cf ct ac la (bo + boOf ls) se en ot
  coh : Memb wx sb r ph lk false lv' nilV
  lend : Cohs wx lv' ls
  newL : ∀ b, InV lv' b → w.heap.size < b
  loan : ∀ y ∈ ls, ∃ lo, Memb wx sb y y.ph 0 false nilV lo ∧ Cohs wx lo [r] ∧ ∀ b, InV lo b → w.heap.size < b

theorem plcell {w : World} {pb : Nat} {a b : Value} (h : w.heap[pb]? = some (.cells #[a, b] 72 (0, 0))) : w.cell? ⟨pb, 0, none⟩ = some a ∧ w.cell? ⟨pb, 1, none⟩ = some b ∧ w.frozen? ⟨pb, 0, none⟩ = false ∧ w.frozen? ⟨pb, 1, none⟩ = false :=
  ⟨by rw [cell_of_row _ _ _ _ _ _ h]; rfl, by rw [cell_of_row _ _ _ _ _ _ h]; rfl, frozen_of_row w pb 0 _ 72 h, frozen_of_row w pb 1 _ 72 h⟩
theorem rqcell {w : World} {pb : Nat} {a b : Value} (h : w.heap[pb]? = some (.cells #[a, b] 79 (0, 0))) : w.cell? ⟨pb, 0, none⟩ = some a ∧ w.cell? ⟨pb, 1, none⟩ = some b :=
  ⟨by rw [cell_of_row _ _ _ _ _ _ h]; rfl, by rw [cell_of_row _ _ _ _ _ _ h]; rfl⟩
/-- the same as a step of a region that draws. -/
theorem step_app {ops : Array Oper} {o : Oper} {a : Act} {w : World} {K : Act → World → Prop} {Q : Exit → Act → World → Prop} {E : Prop} (hgd : o.guard = none) (T : TypeId) (sl x : Operand)
    (ho : o.op = .call { callee := .builtin .append, args := #[sl, x], argTypes := #[T, T] }) {t : TypeId} {k y : Nat} {z : Value} (hT : Yba.prog.underlying T = some (.slice t)) (hinfo : (Yba.prog.info? t).map (fun i => (i.zero, i.size, i.bytes)) = some (some z, k, y))
    (hzk : z.cells.size = k) (hy : y ≤ 64) {v : Value} {n : Nat} {vs : List Value} (hsl : a.eval sl = v) {xv : Value} (hx : a.eval x = xv) (hv : Own w k t v n vs) {m : Nat} {us : List Value} (hs : Src Yba.prog k T xv m us w) (hm : 0 < m ∨ v ≠ .slice none 0 0) (hlim : n + m ≤ 4096)
    (h : ∀ v' w', Own w' k t v' (n + m) (vs ++ us) → Chg (InV v) w w' → ((∀ b, InV v' b → InV v b) ∨ ∃ c, v' = .slice (some ⟨w.heap.size, 0, none⟩) (n + m) c) → v' ≠ .slice none 0 0 → K (a.put o.dst v') w') :
    if Region.wanted o (yielded ops a.tmps) = true then Oper.wp Yba.prog o a w K Q else E := by
  have hw : Region.wanted o (yielded ops a.tmps) = true := by simp [Region.wanted, hgd]
  rw [if_pos hw]
  obtain ⟨v', w', hrun, h1, h2, h3, h4⟩ := run_app w (ty := o.type) hT hinfo hzk hy hv hs hm hlim
  have h' := h v' w' h1 h2 h3 h4
  unfold Oper.wp
  simp [execOp, ho, resolve, invoke, builtin, hsl, hx, hrun, Result.andThen]
  exact h'
theorem two_src {w : World} {b : Nat} {u v : Value} (h1 : u.oneCell' = true) (h2 : v.oneCell' = true) (h : w.cell? ⟨b, 0, none⟩ = some u) (h' : w.cell? ⟨b, 1, none⟩ = some v) : Src Yba.prog 2 70 (.slice (some ⟨b, 0, none⟩) 1 1) 1 [u, v] w := by
  refine Src.ofSlice w Yba.underlying70 ⟨b, 0, none⟩ 1 1 [u, v] rfl ?_ (by intro x hx; simp at hx; rcases hx with rfl | rfl <;> assumption)
  intro j x hx
  rw [Addr.add_lit, Nat.zero_add]
  match j with
  | 0 => simp at hx; rw [h, hx]
  | 1 => simp at hx; rw [h', hx]
  | j + 2 => simp at hx
theorem has_nil (c : Nat) : has [] c = false := rfl

theorem hmf : ∀ fn first cap w, (Instr.makeFunc fn first cap).run Yba.prog w = .ok (.func fn first cap) w := fun _ _ _ _ => rfl

set_option maxRecDepth 100000 in
set_option maxHeartbeats 1000000 in
theorem grant_is (vv lv hv qv : Value) (vs ls xs : List Ent) (r : Ent) (ph : Int) (sb hb mb pb : Nat) (fr ct : Value) (cf ac la bo se en ot : Int) (w : World) (G : Geo sb hb pb hv qv xs r)
    (hpl : w.heap[pb]? = some (.cells #[hv, qv] 72 (0, 0))) (hx : Reqs w hv xs) (hvv : Cohs w vv vs) (hlv : Cohs w lv ls) (hM : ∀ x ∈ xs, Memb w sb x x.ph 0 false nilV nilV) (hR : Memb w sb r ph 0 false nilV nilV) (S : Site w sb hb mb fr cf ct ac la bo se en ot)
    (hvx : vs.Sublist xs) (hlx : ls.Sublist xs) (hvN : ∀ b, InV vv b → r.c < b ∧ ¬ InV hv b ∧ b ≠ pb) (hlN : ∀ b, InV lv b → r.c < b ∧ ¬ InV hv b ∧ b ≠ pb) (hlen : xs.length ≤ 1024) (h1 : 0 ≤ bo) (h2 : bo < 10) :
    Calls Yba.prog 32 #[.pointer (some ⟨pb, 0, none⟩), .agg #[.pointer (some ⟨r.c, 0, none⟩), .int .u8 r.m], vv, lv] w fun e w' => e = .returned (.tuple #[]) ∧ ∃ hv1 lv', Gr w sb hb mb pb fr ct hv qv cf ac la bo se en ot ph 1 r (xs.filter (fun x => !has vs x.c)) ls w' hv1 lv' := by
  have HG : Hid (Geo sb hb pb hv qv xs r) := G
  have HPL : Hid (w.heap[pb]? = some (.cells #[hv, qv] 72 (0, 0))) := hpl
  have HX : Hid (Reqs w hv xs) := hx
  have HVV : Hid (Cohs w vv vs) := hvv
  have HLV : Hid (Cohs w lv ls) := hlv
  have HM : Hid (∀ x ∈ xs, Memb w sb x x.ph 0 false nilV nilV) := hM
  have HR : Hid (Memb w sb r ph 0 false nilV nilV) := hR
  have HS : Hid (Site w sb hb mb fr cf ct ac la bo se en ot) := S
  have HVX : Hid (vs.Sublist xs) := hvx
  have HLX : Hid (ls.Sublist xs) := hlx
  have HVN : Hid (∀ b, InV vv b → r.c < b ∧ ¬ InV hv b ∧ b ≠ pb) := hvN
  have HLN : Hid (∀ b, InV lv b → r.c < b ∧ ¬ InV hv b ∧ b ≠ pb) := hlN
  obtain ⟨aoV, capV, hvE⟩ := hvv.len
  obtain ⟨aoL, capL, hlE⟩ := hlv.len
  clear G hpl hx hvv hlv hM hR S hvx hlx hvN hlN
  subst hvE hlE
  generalize hgv : vs.length = nv at *
  generalize hgl : ls.length = nl at *
  have HNV : Hid (vs.length = nv) := hgv
  have HNL : Hid (ls.length = nl) := hgl
  have hmf' := hmf
  have hpbl : pb < w.heap.size := (Array.getElem?_eq_some_iff.1 HPL.out).1
  obtain ⟨W0, hW0⟩ : ∃ W0, W0 = (w.alloc (.cells #[.pointer (some ⟨r.c, 0, none⟩), .int .u8 r.m] 79)).alloc (.cells #[.slice aoV nv capV] 81) := ⟨_, rfl⟩
  have HB0 : Hid (Below w.heap.size w W0) := by show Below _ _ _; rw [hW0]; exact ((Below.refl _ _).alloc (Nat.le_refl _) _).alloc (by simp) _
  have HX0 : Hid (W0.heap[w.heap.size]? = some (.cells #[.pointer (some ⟨r.c, 0, none⟩), .int .u8 r.m] 79 (0, 0))) := by
    show _ = _
    rw [hW0, Below.heap_alloc _ _ _ (by simp)]
    exact heap_alloc_new _ _
  have hv0 : W0.cell? ⟨w.heap.size + 1, 0, none⟩ = some (.slice aoV nv capV) := by rw [hW0]; simp
  have HV0 : Hid (W0.cell? ⟨w.heap.size + 1, 0, none⟩ = some (.slice aoV nv capV)) := hv0
  have HW0 : Hid (W0 = (w.alloc (.cells #[.pointer (some ⟨r.c, 0, none⟩), .int .u8 r.m] 79)).alloc (.cells #[.slice aoV nv capV] 81)) := hW0
  have HSZ : Hid (W0.heap.size = w.heap.size + 2) := by show _ = _; rw [hW0]; simp
  clear hW0 hv0
  go_enter Yba.func32, Yba.ntmps32
  go_upto_if 10 with fail
  rw [← HW0.out]
  go_cut [] (fun wx => ∃ hv1, G1 w pb hv qv r (xs.filter (fun x => !has vs x.c)) wx hv1)
  case first =>
    have HPL0 : Hid (W0.heap[pb]? = some (.cells #[hv, qv] 72 (0, 0))) := by
      show _ = _
      rw [HB0.out.block pb hpbl]; exact HPL.out
    obtain ⟨p0, p1, f0, f1⟩ := plcell HPL0.out
    by_cases h0 : 0 < nv
    · have HDel : Hid (Calls Yba.prog 39 #[hv, .func (.func 40) #[] #[.pointer (some ⟨w.heap.size + 1, 0, none⟩)]] W0 fun e w' => ∃ v', e = .returned v' ∧ Reqs w' v' (xs.filter (fun x => !has vs x.c)) ∧ Chg (InV hv) W0 w' ∧ (∀ b, InV v' b → InV hv b)) := by
        refine deleteFunc_is _ vs (w.heap.size + 1) hv xs W0 HV0.out (HVV.out.below HB0.out) (fun y hy => (HM.out y (HVX.out.subset hy)).isC.below HB0.out) (by have := HVX.out.length_le; omega) (fun x hx => (HM.out x hx).isC.below HB0.out) (HX.out.below HB0.out) (by omega) ?_
        intro b hb'
        have hG := HG.out.offH b hb'
        have hbl := Own.lt HX.out hb'
        have hx' : ∀ x ∈ xs, b ≠ x.c := fun x hx => by have := hG.1.2.2.1 x hx; omega
        exact ⟨by omega, fun h => (HVN.out b h).2.1 hb', fun y hy => hx' y (HVX.out.subset hy), hx'⟩
      have hnpb : ¬ InV hv pb := fun h => (HG.out.offH pb h).2.1 rfl
      have hnbx : ¬ InV hv w.heap.size := fun h => by have := Own.lt HX.out h; omega
      go_wp2_with fail
      with_reducible refine HDel.out.mono ?_
      rintro e w1 ⟨v', rfl, q1, c1, i1⟩
      have hp1 := c1.heap HPL0.out hnpb
      obtain ⟨q0, _, g0, _⟩ := plcell hp1
      have HP1 : Hid (w1.heap[pb]? = some (.cells #[hv, qv] 72 (0, 0))) := hp1
      obtain ⟨ao', cc', rfl⟩ := own_len q1
      clear p0 p1 f0 f1 hp1
      go_wp2
      go_meet
      case rel =>
        refine ⟨_, ((Chg.of_below HB0.out).trans (c1.mono (fun q _ h => .inr h))).trans ((chg_set w1 pb 0 _).mono (fun q _ h => .inl h)), ?_, q1.chg (chg_set w1 pb 0 _) (fun b hb' h => (HG.out.offH b (i1 b hb')).2.1 h), i1, ?_⟩
        · rw [heap_setCell_same w1 pb 0 _ 72 _ HP1.out]; rfl
        · exact (chg_set w1 pb 0 _).heap (c1.heap HX0.out hnbx) (by omega)
    · have hz : vs = [] := List.eq_nil_of_length_eq_zero (by have := HNV.out; omega)
      have HF : Hid (xs.filter (fun x => !has vs x.c) = xs) := filter_all (fun x hx => by rw [hz]; rfl)
      go_wp2
      go_meet
      case rel =>
        refine ⟨hv, Chg.of_below HB0.out, HPL0.out, ?_, fun b h => h, HX0.out⟩
        rw [HF.out]
        exact HX.out.below HB0.out
  case rest =>
    obtain ⟨hv1, D⟩ := hcut
    have hb0 := D.b0
    obtain ⟨x0, x1⟩ := rqcell hb0
    have HD : Hid (G1 w pb hv qv r (xs.filter (fun x => !has vs x.c)) wc hv1) := D
    have hoff : ∀ q, (q = pb ∨ InV hv q) → Off sb hb xs r q := by
      rintro q (rfl | h)
      · exact HG.out.offP
      · exact (HG.out.offH q h).1
    have HMc : Hid (∀ x ∈ xs, Memb wc sb x x.ph 0 false nilV nilV) := fun x hx => by
      have hl := (HM.out x hx).low
      refine (HM.out x hx).chg D.chg ?_ ?_ ?_ <;> (intro h; have := (hoff _ h).2.2.1 x hx; omega)
    have HRc : Hid (Memb wc sb r ph 0 false nilV nilV) := by
      have hl := HR.out.low
      refine HR.out.chg D.chg ?_ ?_ ?_ <;> (intro h; have := (hoff _ h).2.2.2; omega)
    have HSc : Hid (Site wc sb hb mb fr cf ct ac la bo se en ot) := HS.out.chg D.chg (fun h => (hoff _ h).2.1 rfl) (fun h => (hoff _ h).1 rfl)
    have HLc : Hid (Cohs wc (.slice aoL nl capL) ls) := HLV.out.chg D.chg (fun b hb' h => by
      have := HLN.out b hb'
      rcases h with h | h
      · exact this.2.2 h
      · exact this.2.1 h)
    have hszc : w.heap.size < wc.heap.size := block_lt_of_cell x0
    clear D hb0 hoff
    go_upto_if 22 with fail
    go_cut [] (fun wx => ∃ hv1 lv', G2 w sb hb mb pb fr ct hv qv cf ac la bo se en ot ph r (xs.filter (fun x => !has vs x.c)) ls wx hv1 lv')
    case first =>
      by_cases h0 : 0 < nl
      · have HBw : Hid (Calls Yba.prog 42 #[.pointer (some ⟨r.c, 0, none⟩), .slice aoL nl capL] wc fun e w' => e = .returned (.tuple #[]) ∧ Chg (fun k => k = hb ∨ k = r.c ∨ ∃ y ∈ ls, k = y.c) wc w' ∧ Site w' sb hb mb fr cf ct ac la (bo + 1) se en ot ∧ ∃ lv', Bor sb r ph ls wc w' lv') := by
          refine borrow_is _ ls r ph sb hb mb fr ct cf ac la bo se en ot wc HLc.out (fun y hy => HMc.out y (HLX.out.subset hy)) HRc.out HSc.out (HG.out.far.sublist HLX.out) (fun y hy => HG.out.low y (HLX.out.subset hy)) HG.out.rlow ?_ (by have := HLX.out.length_le; omega) (by omega) h1 h2
          intro b hb'
          have h3 := HLN.out b hb'
          have h4 := HG.out.rlow
          exact ⟨by omega, by omega, fun y hy => by have := HG.out.low y (HLX.out.subset hy); omega⟩
        go_wp2_with fail
        with_reducible refine HBw.out.mono ?_
        rintro e w1 ⟨rfl, c1, S1, lv', B1⟩
        go_wp2
        go_meet
        case rel =>
          have hin : ∀ q, (q = pb ∨ InV hv q) → ¬ (q = hb ∨ q = r.c ∨ ∃ y ∈ ls, q = y.c) := by
            intro q hq
            have ho : Off sb hb xs r q := by
              rcases hq with rfl | h
              · exact HG.out.offP
              · exact (HG.out.offH q h).1
            rintro (h | h | ⟨y, hy, h⟩)
            · exact ho.1 h
            · have := ho.2.2.2; omega
            · have := ho.2.2.1 y (HLX.out.subset hy); omega
          have hrl := HR.out.lt
          refine ⟨hv1, lv', ?_, c1.heap HD.out.pl (hin _ (.inl rfl)), HD.out.rq.chg c1 (fun b hb' => hin b (.inr (HD.out.inn b hb'))), HD.out.inn, c1.heap HD.out.b0 ?_, ?_, B1.coh, B1.lend, fun b hb' => by have := B1.newL b hb'; omega, ?_⟩
          · exact (HD.out.chg.mono (fun q _ h => by rcases h with h | h; exact .inl h; exact .inr (.inl h))).trans (c1.mono (fun q _ h => .inr (.inr h)))
          · rintro (h | h | ⟨y, hy, h⟩)
            · have := (Array.getElem?_eq_some_iff.1 HS.out.host).1; omega
            · omega
            · have := (HM.out y (HLX.out.subset hy)).lt; omega
          · have : boOf ls = 1 := by unfold boOf; rw [if_neg (by have := HNL.out; omega)]
            rw [this]; exact S1
          · intro y hy
            obtain ⟨lo, M, h3, h4⟩ := B1.loan y hy
            exact ⟨lo, M, h3, fun b hb' => by have := h4 b hb'; omega⟩
      · have hz : ls = [] := List.eq_nil_of_length_eq_zero (by have := HNL.out; omega)
        have hzb : boOf ls = 0 := by rw [hz]; rfl
        have HZ : Hid (ls = []) := hz
        have HZB : Hid (boOf ls = 0) := hzb
        clear hz hzb
        go_wp2
        go_meet
        case rel =>
          refine ⟨hv1, nilV, HD.out.chg.mono (fun q _ h => by rcases h with h | h; exact .inl h; exact .inr (.inl h)), HD.out.pl, HD.out.rq, HD.out.inn, HD.out.b0, ?_, HRc.out, ?_, fun b hb' => absurd hb' not_inNil, ?_⟩
          · rw [HZB.out, Int.add_zero]; exact HSc.out
          · rw [HZ.out]; exact Cohs.nil _
          · rw [HZ.out]; intro y hy; cases hy
    case rest =>
      clear x0 x1 hszc
      obtain ⟨hv2, lv', D⟩ := hcut
      obtain ⟨W, hW⟩ : ∃ W, W = wc := ⟨_, rfl⟩
      subst hW
      have hb0 := D.b0
      obtain ⟨x0, x1⟩ := rqcell hb0
      obtain ⟨p0, p1, f0, f1⟩ := plcell D.pl
      have hszc : w.heap.size < W.heap.size := block_lt_of_cell x0
      have hplt : pb < W.heap.size := block_lt_of_cell p0
      have HD2 : Hid (G2 w sb hb mb pb fr ct hv qv cf ac la bo se en ot ph r (xs.filter (fun x => !has vs x.c)) ls W hv2 lv') := D
      have hlf : (xs.filter (fun x => !has vs x.c)).length ≤ 1024 := Nat.le_trans (List.length_filter_le _ _) hlen
      have HQ : Hid (∀ A v' w5, Own w5 2 79 v' ((xs.filter (fun x => !has vs x.c)).length + 1) (lc (xs.filter (fun x => !has vs x.c)) ++ [.pointer (some ⟨r.c, 0, none⟩), .int .u8 r.m]) → Chg (InV hv2) (W.alloc A).drew w5 →
          ((∀ b, InV v' b → InV hv2 b) ∨ ∃ c, v' = .slice (some ⟨(W.alloc A).drew.heap.size, 0, none⟩) ((xs.filter (fun x => !has vs x.c)).length + 1) c) →
          Gr w sb hb mb pb fr ct hv qv cf ac la bo se en ot ph 0 r (xs.filter (fun x => !has vs x.c)) ls (w5.setCell ⟨pb, 0, none⟩ v') v' lv' ∧ w5.cell? ⟨pb, 0, none⟩ = some hv2 ∧ w5.frozen? ⟨pb, 0, none⟩ = false) := by
        intro A v' w5 o5 c5 n5
        have cA : Chg (fun q => InV hv q) W w5 := (Chg.of_below (((Below.refl _ _).alloc (Nat.le_refl _) A).drew)).trans (c5.mono (fun q _ h => D.inn q h))
        have hnpb : ¬ InV hv pb := fun h => (HG.out.offH pb h).2.1 rfl
        have hp5 := cA.heap D.pl hnpb
        obtain ⟨q0, _, g0, _⟩ := plcell hp5
        have cP := cA.mono (T := fun q => q = pb ∨ InV hv q) (fun q _ h => .inr h)
        have cB := cP.trans ((chg_set w5 pb 0 v').mono (fun q _ h => .inl h))
        have hoff : ∀ q, (q = pb ∨ InV hv q) → Off sb hb xs r q ∧ q < w.heap.size := by
          rintro q (rfl | h)
          · exact ⟨HG.out.offP, hpbl⟩
          · exact ⟨(HG.out.offH q h).1, Own.lt HX.out h⟩
        have hnew : ∀ b, InV v' b → (InV hv b ∨ w.heap.size < b) := by
          intro b hb'
          rcases n5 with h | ⟨c, h⟩
          · exact .inl (D.inn b (h b hb'))
          · obtain ⟨n', c', h'⟩ := hb'
            rw [h] at h'
            cases h'
            exact .inr (by simp; show w.heap.size < W.heap.size + 1; omega)
        refine ⟨⟨?_, ?_, ?_, hnew, cB.heap D.b0 (fun h => by have := (hoff _ h).2; omega), D.site.chg cB (fun h => (hoff _ h).1.2.1 rfl) (fun h => (hoff _ h).1.1 rfl), ?_, D.lend.chg cB (fun b hb' h => by have := D.newL b hb'; have := (hoff _ h).2; omega), D.newL, ?_⟩, q0, g0⟩
        · exact D.chg.trans (cB.mono (fun q _ h => by rcases h with h | h; exact .inl h; exact .inr (.inl h)))
        · rw [heap_setCell_same w5 pb 0 _ 72 _ hp5]; rfl
        · have o6 : Reqs w5 v' (xs.filter (fun x => !has vs x.c) ++ [r]) := by
            show Own w5 2 79 v' _ _
            rw [List.length_append, lc_append]
            exact o5
          refine o6.chg (chg_set w5 pb 0 v') (fun b hb' h => ?_)
          rcases hnew b hb' with h3 | h3
          · exact (HG.out.offH b h3).2.1 h
          · omega
        · have hl := HR.out.low
          refine D.coh.chg cB ?_ ?_ ?_ <;> (intro h; have := (hoff _ h).1.2.2.2; omega)
        · intro y hy
          obtain ⟨lo, M, h3, h4⟩ := D.loan y hy
          have hl := M.low
          refine ⟨lo, ?_, h3.chg cB (fun b hb' h => by have := h4 b hb'; have := (hoff _ h).2; omega), h4⟩
          refine M.chg cB ?_ ?_ ?_ <;> (intro h; have := (hoff _ h).1.2.2.1 y (HLX.out.subset hy); omega)
      have HRQ : Hid (∀ A, Own (W.alloc A).drew 2 79 hv2 (xs.filter (fun x => !has vs x.c)).length (lc (xs.filter (fun x => !has vs x.c)))) := fun A => D.rq.below (((Below.refl _ _).alloc (Nat.le_refl _) A).drew)
      clear D hb0 HD f1 HMc HRc HSc HLc
      have hone2 : hv2.oneCell' = true := by obtain ⟨a, b, rfl⟩ := own_len (HRQ.out default); rfl
      go_upto_region 5 with fail
      go_cut [] (fun wx => ∃ v', Gr w sb hb mb pb fr ct hv qv cf ac la bo se en ot ph 0 r (xs.filter (fun x => !has vs x.c)) ls wx v' lv')
      case first =>
        go_region_law ((refine step_app (by rfl) 70 (.tmp 31) (.tmp 33) (by rfl) Yba.underlying70 Yba.info79 rfl (by omega) (v := hv2) (n := (xs.filter (fun x => !has vs x.c)).length) (vs := lc (xs.filter (fun x => !has vs x.c))) (xv := .slice (some ⟨W.heap.size, 0, none⟩) 1 1) (m := 1) (us := [.pointer (some ⟨r.c, 0, none⟩), .int .u8 r.m]) (by rfl) (by rfl) (HRQ.out _) ?_ (.inl (by omega)) (by omega) ?_; exact two_src rfl rfl (by simp) (by simp); intro v' w5 o5 c5 n5 z5; obtain ⟨G6, d10, g10⟩ := HQ.out _ _ _ o5 c5 n5; obtain ⟨ao', cc', rfl⟩ := own_len o5))
        all_goals go_wp2
        all_goals go_meet
        all_goals exact ⟨_, G6⟩
      case rest =>
        obtain ⟨hv3, D3⟩ := hcut
        clear x0 x1 p0 p1 f0 hszc hplt HQ HRQ hone2 HD2
        obtain ⟨W3, hW3⟩ : ∃ W3, W3 = wc := ⟨_, rfl⟩
        subst hW3
        obtain ⟨x0, x1⟩ := rqcell D3.b0
        have c4 : W3.cell? ⟨r.c, 4, none⟩ = some (.int .i64 0) := by rw [D3.coh.cell]; rfl
        have c5 : W3.cell? ⟨r.c, 5, none⟩ = some (.bool false) := by rw [D3.coh.cell]; rfl
        have f4 := D3.coh.free 4
        have f5 := D3.coh.free 5
        have hrl := HR.out.lt
        have hrlow := HR.out.low
        have hrne : r.c ≠ w.heap.size := by omega
        have HD3 : Hid (Gr w sb hb mb pb fr ct hv qv cf ac la bo se en ot ph 0 r (xs.filter (fun x => !has vs x.c)) ls W3 hv3 lv') := D3
        clear D3
        go_wp2
        go_end0
        have D := HD3.out
        have cS : Chg (· = r.c) W3 ((W3.setCell ⟨r.c, 5, none⟩ (.bool false)).setCell ⟨r.c, 4, none⟩ (.int .i64 1)) := (chg_set W3 r.c 5 _).trans (chg_set _ r.c 4 _)
        have hrg := HG.out.rlow
        refine ⟨rfl, hv3, lv', D.chg.trans (cS.mono (fun q _ h => .inr (.inr (.inr (.inl h))))), cS.heap D.pl (fun h => by have := HG.out.offP.2.2.2; omega), D.rq.chg cS (fun b hb' h => ?_), D.inn, cS.heap D.b0 (by omega), D.site.chg cS (by omega) (by omega), ?_, D.lend.chg cS (fun b hb' h => by have := D.newL b hb'; omega), D.newL, ?_⟩
        · rcases D.inn b hb' with h3 | h3
          · have := (HG.out.offH b h3).1.2.2.2; omega
          · omega
        · exact (D.coh.setTo 5 (.bool false) (ph' := ph) (lk' := 0) (lw' := false) (ls' := lv') (lo' := nilV) rfl).setTo 4 (.int .i64 1) rfl
        · intro y hy
          obtain ⟨lo, M, h3, h4⟩ := D.loan y hy
          have hl := M.low
          have hlw := HG.out.low y (HLX.out.subset hy)
          exact ⟨lo, M.chg cS (by omega) (by omega) (by omega), h3.chg cS (fun b hb' h => by have := h4 b hb'; omega), h4⟩
end Go.Proofs.Ybulkboha
