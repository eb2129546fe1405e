import Derived.Test.YbulkbohaThree
namespace Go.Proofs.Ybulkboha
open Go.RowKit
set_option linter.unusedVariables false
set_option linter.unusedSimpArgs false

/-- what the law asks of the page's lock and of the spare one. -/
def Link (v26 v15 : Value) (po : Bool) (pbF : Nat) (fr' : Value) : Prop :=
  (v26 = .pointer (some ⟨pbF, 0, none⟩) ∧ (po = true → ∃ ao, fr' = .slice ao 1 1)) ∨ (v26 = .pointer none ∧ (po = true → v15 = .pointer (some ⟨pbF, 0, none⟩) ∧ ∃ ao, fr' = .slice ao 0 1))

/-- what lies before the call of acquire. -/
structure Was (w : World) (rq : Req) (sb hb mb N0 N1 N2 N3 pb N5 k j : Nat) (fr v15 v26 : Value) (po : Bool) (page : Int) (es qs : List Ent) (r : Ent) (W : World) : Prop where
  bs : Bs w rq sb hb mb N0 fr v15 po W
  md : MapD mb pb page (.slice (some ⟨N0, 0, none⟩) k k) (.slice (some ⟨N1, 0, none⟩) j j) v26 k j W
  hh : OwnC W 2 79 N0 k k (lc es)
  qq : OwnC W 2 79 N1 j j (lc qs)
  pe : OwnC W 2 79 N2 k k (lc es)
  pq : OwnC W 2 79 N3 j j (lc qs)
  me : ∀ e ∈ es, Memb W sb e e.ph 0 false nilV nilV
  mq : ∀ e ∈ qs, Memb W sb e e.ph 0 false nilV nilV
  mr : Memb W sb r 0 0 false nilV nilV
  far : Far es
  lo : ∀ e ∈ es, N0 + 4 ≤ e.c ∧ e.c < N1
  loq : ∀ e ∈ qs, N1 + 4 ≤ e.c ∧ e.c < N2
  ord : N0 + 2 ≤ N1 ∧ N1 + 1 ≤ N2 ∧ N2 < N3 ∧ N3 < pb ∧ pb ≤ N5 ∧ N5 + 2 < r.c
  len : es.length = k ∧ qs.length = j ∧ k ≤ 1024 ∧ j ≤ 1024
  rp : r.ph = 0

theorem Was.below {w : World} {rq : Req} {sb hb mb N0 N1 N2 N3 pb N5 k j : Nat} {fr v15 v26 : Value} {po : Bool} {page : Int} {es qs : List Ent} {r : Ent} {W W' : World} (h : Was w rq sb hb mb N0 N1 N2 N3 pb N5 k j fr v15 v26 po page es qs r W) (b : Below W.heap.size W W') : Was w rq sb hb mb N0 N1 N2 N3 pb N5 k j fr v15 v26 po page es qs r W' :=
  ⟨h.bs.on ⟨b.os, b.tape, b.output, b.size, fun i hi => b.block i (by have := h.bs.siz; omega)⟩, h.md.below b, h.hh.below b, h.qq.below b, h.pe.below b, h.pq.below b, fun e he => (h.me e he).below b, fun e he => (h.mq e he).below b, h.mr.below b, h.far, h.lo, h.loq, h.ord, h.len, h.rp⟩

theorem inV_lit {b n c q : Nat} (h : InV (.slice (some ⟨b, 0, none⟩) n c) q) : q = b := by
  obtain ⟨n', c', h⟩ := h
  cases h
  rfl

theorem Was.ini {w : World} {rq : Req} {sb hb mb N0 N1 N2 N3 pb N5 k j : Nat} {fr v15 v26 : Value} {po : Bool} {page : Int} {es qs : List Ent} {r : Ent} {W : World} (h : Was w rq sb hb mb N0 N1 N2 N3 pb N5 k j fr v15 v26 po page es qs r W) :
    ∃ pbF fr' hvF qvF, Ini N0 sb hb mb pbF fr fr' hvF qvF page es qs r W ∧ Link v26 v15 po pbF fr' ∧ w.heap.size < pbF ∧ (∀ b, InV hvF b → b = N0) ∧ (∀ b, InV qvF b → b = N1) ∧ (pbF < N0 ∨ pbF = pb ∨ pbF = W.heap.size) ∧ (∀ b, InV fr b → w.heap.size < b) := by
  obtain ⟨o1, o2, o3, o4, o5, o6⟩ := h.ord
  obtain ⟨l1, l2, l3, l4⟩ := h.len
  obtain ⟨i1, i2, i3, i4⟩ := h.bs.hi
  obtain ⟨lo1, lo2, lo3, lo4, lo5⟩ := h.bs.lo
  have hmr : Memb W sb r r.ph 0 false nilV nilV := by rw [h.rp]; exact h.mr
  have hrl := h.mr.lt
  have frN : ∀ b, InV fr b → b < N0 ∧ w.heap.size < b := by
    intro b hb'
    rcases h.bs.pool with ⟨_, h1, _⟩ | ⟨_, fb, sp, h1, _, _, _, _, _, _, _, _, _, _, h12, _, h14, _⟩
    · rw [h1] at hb'; exact absurd hb' not_inNil
    · rw [h1] at hb'; rw [inV_lit hb']; exact ⟨h12, h14⟩
  have hxs : ∀ x ∈ es, N0 + 2 ≤ x.c ∧ x.c + 2 < r.c := fun x hx => by have := h.lo x hx; omega
  have hqs : ∀ q ∈ qs, N0 + 2 ≤ q.c := fun x hx => by have := h.loq x hx; omega
  have hholE : Reqs W (.slice (some ⟨N0, 0, none⟩) k k) es := by show Own _ _ _ _ _ _; rw [l1]; exact h.hh.own
  have hqueE : Reqs W (.slice (some ⟨N1, 0, none⟩) j j) qs := by show Own _ _ _ _ _ _; rw [l2]; exact h.qq.own
  rcases h.md with ⟨m1, m2, m3⟩ | ⟨m1, m2, m3, m4⟩
  · refine ⟨pb, fr, .slice (some ⟨N0, 0, none⟩) k k, .slice (some ⟨N1, 0, none⟩) j j, ⟨⟨i1, i2, i3, fun b hb' => (frN b hb').1, h.far, hxs, hqs, by omega, ?_, ?_, ?_, .inr ⟨N1, by rw [l2]⟩, ⟨lo4, lo5⟩⟩, .inl ⟨m2, m3, rfl⟩, h.bs.site, h.me, h.mq, hmr, hholE, hqueE, by omega, by omega⟩, .inl ⟨m1, fun hp => ?_⟩, by omega, fun b hb' => inV_lit hb', fun b hb' => inV_lit hb', .inr (.inl rfl), fun b hb' => (frN b hb').2⟩
    · intro b hb'
      rw [inV_lit hb']
      refine ⟨Nat.le_refl _, fun x hx => .inl (by have := h.lo x hx; omega), .inl (by omega), by omega, fun hq => by have := inV_lit hq; omega⟩
    · intro b hb'
      rw [inV_lit hb']
      refine ⟨by omega, fun x hx => .inr (by have := h.lo x hx; omega), .inl (by omega), by omega⟩
    · refine ⟨by omega, by omega, by omega, fun hf => by have := (frN pb hf).1; omega, fun x hx => .inr (by have := h.lo x hx; omega), .inl (by omega)⟩
    · rcases h.bs.pool with ⟨h0, _⟩ | ⟨_, fb, sp, h1, _⟩
      · rw [h0] at hp; cases hp
      · exact ⟨_, h1⟩
  · have he0 : es = [] := List.eq_nil_of_length_eq_zero (by omega)
    have hq0 : qs = [] := List.eq_nil_of_length_eq_zero (by omega)
    have hhN : Reqs W nilV es := by rw [he0]; exact Reqs.nil _
    have hqN : Reqs W nilV qs := by rw [hq0]; exact Reqs.nil _
    rcases h.bs.pool with ⟨p1, p2, p3⟩ | ⟨p1, fb, sp, p2, p3, p4, p5, p6, p7, p8, p9, p10, p11, p12, p13, p14, p15, p16⟩
    · refine ⟨W.heap.size, nilV, nilV, nilV, ⟨⟨i1, i2, i3, fun b hb' => (frN b hb').1, h.far, hxs, hqs, by omega, fun b hb' => absurd hb' not_inNil, fun b hb' => absurd hb' not_inNil, ?_, .inl rfl, ⟨lo4, lo5⟩⟩, .inr (.inl ⟨m2, rfl, rfl, rfl, p2, rfl⟩), h.bs.site, h.me, h.mq, hmr, hhN, hqN, by omega, by omega⟩, .inr ⟨m1, fun hp => by rw [p1] at hp; cases hp⟩, by omega, fun b hb' => absurd hb' not_inNil, fun b hb' => absurd hb' not_inNil, .inr (.inr rfl), fun b hb' => (frN b hb').2⟩
      refine ⟨by omega, by omega, by omega, fun hf => by have := (frN _ hf).1; omega, fun x hx => .inr (by have := h.lo x hx; omega), .inr (by omega)⟩
    · refine ⟨sp, .slice (some ⟨fb, 0, none⟩) 0 1, nilV, nilV, ⟨⟨i1, i2, i3, fun b hb' => (frN b hb').1, h.far, hxs, hqs, by omega, fun b hb' => absurd hb' not_inNil, fun b hb' => absurd hb' not_inNil, ?_, .inl rfl, ⟨lo4, lo5⟩⟩, .inr (.inr ⟨m2, fb, p2, rfl, p4, p6, p7, p8, p5, rfl, rfl⟩), h.bs.site, h.me, h.mq, hmr, hhN, hqN, by omega, by omega⟩, .inr ⟨m1, fun _ => ⟨p3, _, rfl⟩⟩, by omega, fun b hb' => absurd hb' not_inNil, fun b hb' => absurd hb' not_inNil, .inl p14, fun b hb' => (frN b hb').2⟩
      refine ⟨by omega, by omega, by omega, fun hf => ?_, fun x hx => .inl (by have := h.lo x hx; omega), .inl (by omega)⟩
      rw [p2] at hf
      exact p9 (inV_lit hf)

theorem Yba.info72 : (Yba.prog.info? 72).map (fun i => i.size) = some 2 := by kernel_rfl
theorem Yba.info102 : (Yba.prog.info? 102).map (fun i => i.size) = some 7 := by kernel_rfl
theorem neqP {t te : TypeId} {sz : Nat} (hp : Yba.prog.underlying t = some (.pointer te)) (hi : (Yba.prog.info? te).map (fun i => i.size) = some sz) (a : Addr) (w : World) : (binOp .neq t (.pointer (some a)) (.pointer (some a))).run Yba.prog w = .ok (.bool false) w := by
  obtain ⟨j, hj, hs⟩ := Option.map_eq_some_iff.1 hi
  have h : ∀ d : Nat, (Op.equalIn (d + 1) t (.pointer (some a)) (.pointer (some a))).run Yba.prog w = .ok true w := fun d => by
    simp [Op.equalIn, run_underlying hp, sizeOf, typeInfo, hj, run_sameAddr_same]
  simp only [binOp]
  simp [Op.equal, Op.maxDepth, h 9999]
theorem neq69 (a : Addr) (w : World) : (binOp .neq 69 (.pointer (some a)) (.pointer (some a))).run Yba.prog w = .ok (.bool false) w := neqP Yba.underlying69 Yba.info72 a w
theorem neq47 (a : Addr) (w : World) : (binOp .neq 47 (.pointer (some a)) (.pointer (some a))).run Yba.prog w = .ok (.bool false) w := neqP Yba.underlying47 Yba.info102 a w
theorem neq74 (a : Addr) (w : World) : (binOp .neq 74 (.pointer (some a)) (.pointer (some a))).run Yba.prog w = .ok (.bool false) w := neqP Yba.underlying74 Yba.info83 a w
theorem neq69n (a : Addr) (w : World) : (binOp .neq 69 (.pointer (some a)) (.pointer none)).run Yba.prog w = .ok (.bool true) w := by kernel_rfl
theorem neq69nn (w : World) : (binOp .neq 69 (.pointer none) (.pointer none)).run Yba.prog w = .ok (.bool false) w := by kernel_rfl

/-- what a call of acquire gives. -/
def AcqV (w : World) (sb hb mb pb : Nat) (fr fr' hv qv : Value) (page : Int) (xs qs : List Ent) (r : Ent) (e : Ending) (w' : World) : Prop := ∃ g : Bool, e = .returned (.bool g) ∧ AcqEnds w sb hb mb pb fr fr' hv qv page xs qs r (.returned (.bool g)) w'
theorem acquireV (N0 sb hb mb pb : Nat) (fr fr' hv qv : Value) (page : Int) (xs qs : List Ent) (r : Ent) (w : World) (I : Ini N0 sb hb mb pb fr fr' hv qv page xs qs r w) :
    Calls Yba.prog 20 #[.pointer (some ⟨sb, 15, none⟩), .pointer (some ⟨r.c, 0, none⟩), .int .i64 page, .int .u8 r.m] w fun e w' => AcqV w sb hb mb pb fr fr' hv qv page xs qs r e w' := by
  refine (acquire_is N0 sb hb mb pb fr fr' hv qv page xs qs r w I).mono ?_
  intro e w' h
  rcases h with ⟨vs, ls, hv1, lv', h1, h2, rfl, h4⟩ | ⟨h1, rfl, h3⟩
  · exact ⟨true, rfl, .inl ⟨vs, ls, hv1, lv', h1, h2, rfl, h4⟩⟩
  · exact ⟨false, rfl, .inr ⟨h1, rfl, h3⟩⟩
theorem AcqEnds.chg {w : World} {sb hb mb pb : Nat} {fr fr' hv qv : Value} {page : Int} {xs qs : List Ent} {r : Ent} {e : Ending} {w' : World} (h : AcqEnds w sb hb mb pb fr fr' hv qv page xs qs r e w') : Chg (Touch sb hb mb pb fr hv qv xs r) w w' := by
  rcases h with ⟨vs, ls, hv1, lv', h1, h2, _, h4⟩ | ⟨h1, _, qv1, h3⟩
  · exact h4.chg
  · exact h3.chg
/-- what both endings have in common. -/
structure Com (sb hb mb pb : Nat) (fr' : Value) (page : Int) (xs : List Ent) (r : Ent) (w' : World) : Prop where
  map : w'.heap[mb]? = some (.map (oneE page pb) 1)
  site : ∃ ac la bo se en, Site w' sb hb mb fr' (cfOf (anyC r xs)) (ctOf (anyC r xs) r) ac la bo se en 0
  tx : w'.cell? ⟨r.c, 1, none⟩ = some (.pointer (some ⟨r.c - 1, 0, none⟩))
theorem AcqEnds.com {w : World} {sb hb mb pb : Nat} {fr fr' hv qv : Value} {page : Int} {xs qs : List Ent} {r : Ent} {e : Ending} {w' : World} (h : AcqEnds w sb hb mb pb fr fr' hv qv page xs qs r e w') : Com sb hb mb pb fr' page xs r w' := by
  rcases h with ⟨vs, ls, hv1, lv', h1, h2, _, h4⟩ | ⟨h1, _, qv1, h3⟩
  · exact ⟨h4.map, ⟨_, _, _, _, _, h4.site⟩, by rw [h4.coh.cell]; rfl⟩
  · exact ⟨h3.map, ⟨_, _, _, _, _, h3.site⟩, by rw [h3.coh.cell]; rfl⟩
theorem Com.below {sb hb mb pb : Nat} {fr' : Value} {page : Int} {xs : List Ent} {r : Ent} {w' W : World} (h : Com sb hb mb pb fr' page xs r w') (b : Below w'.heap.size w' W) : Com sb hb mb pb fr' page xs r W := by
  obtain ⟨ac, la, bo, se, en, S⟩ := h.site
  exact ⟨(Chg.of_below (S := fun _ => False) b).heap h.map (fun h => h), ⟨ac, la, bo, se, en, S.below b⟩, b.keep h.tx⟩
theorem b2i_cf (u : Bool) (w : World) : Calls Yba.prog 21 #[.bool u] w fun e w' => e = .returned (.int .i64 (cfOf u)) ∧ w' = w := b2i_is u w
theorem neq26 {v26 v15 : Value} {po : Bool} {pbF : Nat} {fr' : Value} (h : Link v26 v15 po pbF fr') : ∃ b : Bool, (∀ w, (binOp .neq 69 v26 (.pointer none)).run Yba.prog w = .ok (.bool b) w) ∧ (∀ x y w, (eqGuard .neq 69 x y v26 (.pointer none)).run Yba.prog w = .ok () w) ∧ ((b = true ∧ v26 = .pointer (some ⟨pbF, 0, none⟩) ∧ (po = true → ∃ ao, fr' = .slice ao 1 1)) ∨ (b = false ∧ v26 = .pointer none ∧ (po = true → v15 = .pointer (some ⟨pbF, 0, none⟩) ∧ ∃ ao, fr' = .slice ao 0 1))) := by
  rcases h with ⟨h1, h2⟩ | ⟨h1, h2⟩
  · exact ⟨true, fun w => by rw [h1]; exact neq69n _ w, fun x y w => by rw [h1]; rfl, .inl ⟨rfl, h1, h2⟩⟩
  · exact ⟨false, fun w => by rw [h1]; exact neq69nn w, fun x y w => by rw [h1]; rfl, .inr ⟨rfl, h1, h2⟩⟩
/-- the law's own 'granted' is what acquire answers. -/
theorem AcqEnds.granted {w : World} {sb hb mb pb : Nat} {fr fr' hv qv : Value} {page : Int} {xs qs : List Ent} {r : Ent} {g : Bool} {w' : World} (h : AcqEnds w sb hb mb pb fr fr' hv qv page xs qs r (.returned (.bool g)) w') {ok : Bool} {vs ls : List Ent} (hT : ok = true → tk r xs [] [] = some (vs, ls)) (hF : ok = false → tk r xs [] [] = none) : g = (headOK r qs && ok) := by
  rcases h with ⟨vs', ls', hv1, lv', h1, h2, h3, h4⟩ | ⟨h1, h3, qv1, h4⟩
  · injection h3 with h3
    injection h3 with h3
    subst h3
    cases ok with
    | true => rw [h1]; rfl
    | false => rw [hF rfl] at h2; cases h2
  · injection h3 with h3
    injection h3 with h3
    subst h3
    rcases h1 with h1 | h1
    · rw [h1]; rfl
    · cases ok with
      | true => rw [hT rfl] at h1; cases h1
      | false => simp
/-- what is not touched. -/
theorem noTouch {sb hb mb pbF pb N0 N1 M : Nat} {fr hvF qvF : Value} {es : List Ent} {r : Ent} (h1 : hb < N0 ∧ sb < N0 ∧ mb < N0) (h2 : ∀ b, InV fr b → b < N0) (h3 : ∀ b, InV hvF b → b = N0) (h4 : ∀ b, InV qvF b → b = N1) (h5 : pbF < N0 ∨ pbF = pb ∨ pbF = M) (h6 : N0 ≤ N1) (h7 : ∀ e ∈ es, e.c < N1) {b : Nat} (hb1 : N1 < b) (hb2 : b ≠ pb) (hb3 : b ≠ r.c) (hb4 : b < M) : ¬ Touch sb hb mb pbF fr hvF qvF es r b := by
  rintro ((h | h | h | h) | h | h | h | h | ⟨x, hx, h⟩)
  · omega
  · omega
  · have := h2 b h; omega
  · omega
  · omega
  · have := h3 b h; omega
  · have := h4 b h; omega
  · exact hb3 h
  · have := h7 x hx; omega
end Go.Proofs.Ybulkboha
