import Derived.Test.YbulkbohaMap
namespace Go.Proofs.Ybulkboha
open Go.RowKit
set_option linter.unusedVariables false
set_option linter.unusedSimpArgs false

/-- b lies beside the cohort at block c, its Txn and its row. -/
def Beside (b c : Nat) : Prop := b + 2 < c ∨ c < b
/-- how all lies: what is below N0 is the site's. -/
structure Lay (N0 sb hb mb pb : Nat) (fr hv qv : Value) (xs qs : List Ent) (r : Ent) : Prop where
  hbN : hb < N0
  sbN : sb < N0
  mbN : mb < N0
  frN : ∀ b, InV fr b → b < N0
  far : Far xs
  xsN : ∀ x ∈ xs, N0 + 2 ≤ x.c ∧ x.c + 2 < r.c
  qsN : ∀ q ∈ qs, N0 + 2 ≤ q.c
  rN : N0 + 2 ≤ r.c
  hvN : ∀ b, InV hv b → N0 ≤ b ∧ (∀ x ∈ xs, Beside b x.c) ∧ Beside b r.c ∧ b ≠ pb ∧ ¬ InV qv b
  qvN : ∀ b, InV qv b → N0 ≤ b ∧ (∀ x ∈ xs, Beside b x.c) ∧ Beside b r.c ∧ b ≠ pb
  pbN : pb ≠ hb ∧ pb ≠ sb ∧ pb ≠ mb ∧ ¬ InV fr pb ∧ (∀ x ∈ xs, Beside pb x.c) ∧ Beside pb r.c
  qcap : qv = nilV ∨ ∃ b, qv = .slice (some ⟨b, 0, none⟩) qs.length qs.length
  hmb : mb ≠ hb ∧ mb ≠ sb

theorem Lay.geo {N0 sb hb mb pb : Nat} {fr hv qv : Value} {xs qs : List Ent} {r : Ent} (L : Lay N0 sb hb mb pb fr hv qv xs qs r) : Geo sb hb pb hv qv xs r := by
  have h1 := L.hbN
  have h2 := L.sbN
  have h3 := L.rN
  refine ⟨L.far, fun x hx => ?_, by omega, ⟨L.pbN.1, L.pbN.2.1, L.pbN.2.2.2.2.1, L.pbN.2.2.2.2.2⟩, fun b hb' => ?_, fun b hb' => ?_⟩
  · have := L.xsN x hx; omega
  · have h := L.hvN b hb'
    exact ⟨⟨by omega, by omega, h.2.1, h.2.2.1⟩, h.2.2.2.1, h.2.2.2.2⟩
  · have h := L.qvN b hb'
    exact ⟨⟨by omega, by omega, h.2.1, h.2.2.1⟩, h.2.2.2⟩

/-- the page's lock before the call: it is there; it is not, and no spare one; it is not, and there is a spare one. -/
def Pre (w : World) (sb hb mb pb : Nat) (fr fr' hv qv : Value) (page : Int) : Prop :=
  (w.heap[mb]? = some (.map (oneE page pb) 1) ∧ w.heap[pb]? = some (.cells #[hv, qv] 72 (0, 0)) ∧ fr' = fr) ∨
  (w.heap[mb]? = some (.map #[] 0) ∧ pb = w.heap.size ∧ hv = nilV ∧ qv = nilV ∧ fr = nilV ∧ fr' = nilV) ∨
  (w.heap[mb]? = some (.map #[] 0) ∧ ∃ fb, fr = .slice (some ⟨fb, 0, none⟩) 1 1 ∧ fr' = .slice (some ⟨fb, 0, none⟩) 0 1 ∧ w.heap[fb]? = some (.cells #[.pointer (some ⟨pb, 0, none⟩)] 69 (0, 0)) ∧ fb ≠ sb ∧ fb ≠ hb ∧ fb ≠ mb ∧ w.heap[pb]? = some (.cells #[nilV, nilV] 72 (0, 0)) ∧ hv = nilV ∧ qv = nilV)

def cfOf (b : Bool) : Int := if b then 1 else 0
def ctOf (b : Bool) (r : Ent) : Value := if b then .pointer (some ⟨r.c - 1, 0, none⟩) else .pointer none
def anyC (r : Ent) (xs : List Ent) : Bool := xs.any (fun x => r.m == 2 || x.m == 2)
def headOK (r : Ent) (qs : List Ent) : Bool := match qs with | [] => true | q :: _ => rank r.p q.p

/-- what the call may touch before it grants or refuses. -/
def T0 (sb hb mb : Nat) (fr : Value) (k : Nat) : Prop := k = mb ∨ k = sb ∨ InV fr k ∨ k = hb
theorem T0.lt {N0 sb hb mb pb : Nat} {fr hv qv : Value} {xs qs : List Ent} {r : Ent} (L : Lay N0 sb hb mb pb fr hv qv xs qs r) {k : Nat} (h : T0 sb hb mb fr k) : k < N0 := by
  have h1 := L.hbN
  have h2 := L.sbN
  have h3 := L.mbN
  rcases h with h | h | h | h
  · omega
  · omega
  · exact L.frN k h
  · omega

/-- the memory that the call works on. -/
structure Mid (sb hb mb pb : Nat) (fr hv qv : Value) (page : Int) (xs qs : List Ent) (r : Ent) (any : Bool) (wx : World) : Prop where
  map : wx.heap[mb]? = some (.map (oneE page pb) 1)
  pl : wx.heap[pb]? = some (.cells #[hv, qv] 72 (0, 0))
  site : Site wx sb hb mb fr (cfOf any) (ctOf any r) 0 0 0 0 0 0
  mem : ∀ x ∈ xs, Memb wx sb x x.ph 0 false nilV nilV
  mem2 : ∀ x ∈ qs, Memb wx sb x x.ph 0 false nilV nilV
  coh : Memb wx sb r r.ph 0 false nilV nilV
  hol : Reqs wx hv xs
  que : Reqs wx qv qs

theorem Mid.below {sb hb mb pb : Nat} {fr hv qv : Value} {page : Int} {xs qs : List Ent} {r : Ent} {any : Bool} {wx w' : World} (h : Mid sb hb mb pb fr hv qv page xs qs r any wx) (k : Below wx.heap.size wx w') : Mid sb hb mb pb fr hv qv page xs qs r any w' := by
  have c := Chg.of_below (S := fun _ => False) k
  exact ⟨c.heap h.map (fun h => h), c.heap h.pl (fun h => h), h.site.below k, fun x hx => (h.mem x hx).below k, fun x hx => (h.mem2 x hx).below k, h.coh.below k, h.hol.below k, h.que.below k⟩

/-- what is there before the call. -/
structure Ini (N0 sb hb mb pb : Nat) (fr fr' hv qv : Value) (page : Int) (xs qs : List Ent) (r : Ent) (w : World) : Prop where
  lay : Lay N0 sb hb mb pb fr hv qv xs qs r
  pre : Pre w sb hb mb pb fr fr' hv qv page
  site : Site w sb hb mb fr 0 (.pointer none) 0 0 0 0 0 0
  mem : ∀ x ∈ xs, Memb w sb x x.ph 0 false nilV nilV
  mem2 : ∀ x ∈ qs, Memb w sb x x.ph 0 false nilV nilV
  coh : Memb w sb r r.ph 0 false nilV nilV
  hol : Reqs w hv xs
  que : Reqs w qv qs
  len : xs.length ≤ 1024
  len2 : qs.length ≤ 1024

/-- all but the map, the page's lock and the site, carried over what the front of the call touches. -/
theorem Ini.mid {N0 sb hb mb pb : Nat} {fr fr' hv qv : Value} {page : Int} {xs qs : List Ent} {r : Ent} {w wx : World} (I : Ini N0 sb hb mb pb fr fr' hv qv page xs qs r w) (c : Chg (T0 sb hb mb fr) w wx) {any : Bool}
    (hm : wx.heap[mb]? = some (.map (oneE page pb) 1)) (hp : wx.heap[pb]? = some (.cells #[hv, qv] 72 (0, 0))) (hs : Site wx sb hb mb fr' (cfOf any) (ctOf any r) 0 0 0 0 0 0) : Mid sb hb mb pb fr' hv qv page xs qs r any wx := by
  have L := I.lay
  have hlt : ∀ {k}, T0 sb hb mb fr k → k < N0 := fun h => T0.lt L h
  refine ⟨hm, hp, hs, fun x hx => ?_, fun x hx => ?_, ?_, I.hol.chg c (fun b hb' h => ?_), I.que.chg c (fun b hb' h => ?_)⟩
  · have := L.xsN x hx
    refine (I.mem x hx).chg c ?_ ?_ ?_ <;> (intro h; have := hlt h; omega)
  · have := L.qsN x hx
    refine (I.mem2 x hx).chg c ?_ ?_ ?_ <;> (intro h; have := hlt h; omega)
  · have := L.rN
    refine I.coh.chg c ?_ ?_ ?_ <;> (intro h; have := hlt h; omega)
  · have := (L.hvN b hb').1; have := hlt h; omega
  · have := (L.qvN b hb').1; have := hlt h; omega

/-- what the call may touch at all. -/
def Touch (sb hb mb pb : Nat) (fr hv qv : Value) (xs : List Ent) (r : Ent) (k : Nat) : Prop := T0 sb hb mb fr k ∨ k = pb ∨ InV hv k ∨ InV qv k ∨ k = r.c ∨ ∃ x ∈ xs, k = x.c

/-- what tk finds. -/
theorem tk_spec (r : Ent) : ∀ (xs v l vs ls : List Ent), tk r xs v l = some (vs, ls) → ∃ vs' ls', vs = v ++ vs' ∧ ls = l ++ ls' ∧ vs'.Sublist xs ∧ ls'.Sublist xs ∧ (∀ y ∈ vs', abortP y.ph = true) ∧ (∀ y ∈ ls', lendsP y.ph y.lend = true)
  | [], v, l, vs, ls, h => by
    simp only [tk, Option.some.injEq, Prod.mk.injEq] at h
    exact ⟨[], [], by simp [h.1], by simp [h.2], List.Sublist.refl _, List.Sublist.refl _, by simp, by simp⟩
  | x :: xs, v, l, vs, ls, h => by
    rw [tk] at h
    split at h
    · obtain ⟨vs', ls', h1, h2, h3, h4, h5, h6⟩ := tk_spec r xs v l vs ls h
      exact ⟨vs', ls', h1, h2, h3.cons _, h4.cons _, h5, h6⟩
    · split at h
      · rename_i hl
        obtain ⟨vs', ls', h1, h2, h3, h4, h5, h6⟩ := tk_spec r xs v (l ++ [x]) vs ls h
        refine ⟨vs', x :: ls', h1, by simpa using h2, h3.cons _, h4.cons_cons _, h5, ?_⟩
        intro y hy
        rcases List.mem_cons.1 hy with rfl | hy
        · exact hl
        · exact h6 y hy
      · split at h
        · rename_i hl
          obtain ⟨vs', ls', h1, h2, h3, h4, h5, h6⟩ := tk_spec r xs (v ++ [x]) l vs ls h
          refine ⟨x :: vs', ls', by simpa using h1, h2, h3.cons_cons _, h4.cons _, ?_, h6⟩
          intro y hy
          rcases List.mem_cons.1 hy with rfl | hy
          · simp only [Bool.and_eq_true] at hl
            exact hl.2
          · exact h5 y hy
        · cases h
theorem lend_not_abort {y : Ent} (h1 : abortP y.ph = true) (h2 : lendsP y.ph y.lend = true) : False := by
  unfold abortP at h1
  unfold lendsP at h2
  simp only [Bool.or_eq_true, Bool.and_eq_true, beq_iff_eq] at h1 h2
  omega
theorem Far.of_mem {xs : List Ent} (h : Far xs) {a b : Ent} (ha : a ∈ xs) (hb : b ∈ xs) (hn : a ≠ b) : a.c + 2 < b.c ∨ b.c + 2 < a.c := by
  obtain ⟨i, hi⟩ := List.getElem?_of_mem ha
  obtain ⟨j, hj⟩ := List.getElem?_of_mem hb
  refine h.apart (i := i) (j := j) (fun e => hn ?_) hi hj
  subst e
  rw [hi] at hj
  exact Option.some.inj hj

/-- what a grant leaves. -/
structure AcqG (w : World) (sb hb mb pb : Nat) (fr fr' hv qv : Value) (page : Int) (xs qs : List Ent) (r : Ent) (vs ls : List Ent) (hv1 lv' : Value) (w' : World) : Prop where
  chg : Chg (Touch sb hb mb pb fr hv qv xs r) w w'
  map : w'.heap[mb]? = some (.map (oneE page pb) 1)
  pl : w'.heap[pb]? = some (.cells #[hv1, qv] 72 (0, 0))
  hol : Reqs w' hv1 (xs.filter (fun x => !has vs x.c) ++ [r])
  que : Reqs w' qv qs
  site : Site w' sb hb mb fr' (cfOf (anyC r xs)) (ctOf (anyC r xs) r) 1 0 (boOf ls) (told vs) (told vs) 0
  coh : Memb w' sb r r.ph 1 false lv' nilV
  lend : Cohs w' lv' ls
  loan : ∀ y ∈ ls, ∃ lo, w'.cell? ⟨y.c, 12, none⟩ = some lo ∧ Cohs w' lo [r]
  vict : ∀ y ∈ vs, w'.cell? ⟨y.c, 3, none⟩ = some (.int .u8 (deadPh y.ph))
  isC : ∀ x ∈ xs, IsC w' x.c

/-- how many of the queue stay ahead of r. -/
def insI (r : Ent) : List Ent → Nat
  | [] => 0
  | q :: qs => if rank r.p q.p then 0 else insI r qs + 1
theorem insI_le (r : Ent) (qs : List Ent) : insI r qs ≤ qs.length := by
  induction qs with
  | nil => simp [insI]
  | cons q qs ih => rw [insI]; split <;> simp <;> omega

/-- what a refusal leaves. -/
structure AcqR (w : World) (sb hb mb pb : Nat) (fr fr' hv qv : Value) (page : Int) (xs qs : List Ent) (r : Ent) (lw : Bool) (qv1 : Value) (w' : World) : Prop where
  chg : Chg (Touch sb hb mb pb fr hv qv xs r) w w'
  map : w'.heap[mb]? = some (.map (oneE page pb) 1)
  pl : w'.heap[pb]? = some (.cells #[hv, qv1] 72 (0, 0))
  hol : Reqs w' hv xs
  que : Reqs w' qv1 (insAt qs (insI r qs) r)
  site : Site w' sb hb mb fr' (cfOf (anyC r xs)) (ctOf (anyC r xs) r) 0 0 0 0 0 0
  coh : Memb w' sb r r.ph 0 lw nilV nilV
  inn : ∀ b, InV qv1 b → InV qv b ∨ w.heap.size ≤ b

/-- how the call ends. -/
def AcqEnds (w : World) (sb hb mb pb : Nat) (fr fr' hv qv : Value) (page : Int) (xs qs : List Ent) (r : Ent) (e : Ending) (w' : World) : Prop :=
  (∃ vs ls hv1 lv', headOK r qs = true ∧ tk r xs [] [] = some (vs, ls) ∧ e = .returned (.bool true) ∧ AcqG w sb hb mb pb fr fr' hv qv page xs qs r vs ls hv1 lv' w') ∨
  ((headOK r qs = false ∨ tk r xs [] [] = none) ∧ e = .returned (.bool false) ∧ ∃ qv1, AcqR w sb hb mb pb fr fr' hv qv page xs qs r true qv1 w')

/-- the victims behind the grant. -/
theorem vict_keep {w5 w6 : World} {sb hb pb : Nat} {hv qv : Value} {xs vs ls : List Ent} {r : Ent} (G : Geo sb hb pb hv qv xs r) (c : Chg (fun k => k = pb ∨ InV hv k ∨ k = hb ∨ k = r.c ∨ ∃ y ∈ ls, k = y.c) w5 w6)
    (hvx : vs.Sublist xs) (hlx : ls.Sublist xs) (hva : ∀ y ∈ vs, abortP y.ph = true) (hla : ∀ y ∈ ls, lendsP y.ph y.lend = true) {y : Ent} (hy : y ∈ vs) {ph lk : Int} {lw : Bool} {a b : Value} (M : Memb w5 sb y ph lk lw a b) : Memb w6 sb y ph lk lw a b := by
  have hyx := hvx.subset hy
  have hl := M.low
  have hlw := G.low y hyx
  have key : ∀ k, (k = y.c ∨ k = y.c - 1 ∨ k = y.c - 2) → ¬ (k = pb ∨ InV hv k ∨ k = hb ∨ k = r.c ∨ ∃ y ∈ ls, k = y.c) := by
    intro k hk h
    rcases h with h | h | h | h | ⟨l, hl', h⟩
    · have := G.offP.2.2.1 y hyx; omega
    · have := (G.offH k h).1.2.2.1 y hyx; omega
    · omega
    · omega
    · have hne : y ≠ l := fun e => by subst e; exact lend_not_abort (hva _ hy) (hla _ hl')
      have := G.far.of_mem hyx (hlx.subset hl') hne
      omega
  exact M.chg c (key _ (.inl rfl)) (key _ (.inr (.inl rfl))) (key _ (.inr (.inr rfl)))

theorem acqG_made {N0 sb hb mb pb : Nat} {fr fr' hv qv : Value} {page : Int} {xs qs vs ls : List Ent} {r : Ent} {w W4 w5 w6 w7 w8 : World} {hv1 lv' : Value} (I : Ini N0 sb hb mb pb fr fr' hv qv page xs qs r w) (C4 : Chg (T0 sb hb mb fr) w W4) (hb5 : Below W4.heap.size W4 w5)
    (M5 : Mid sb hb mb pb fr' hv qv page xs qs r (anyC r xs) w5) (hvx : vs.Sublist xs) (hlx : ls.Sublist xs) (hva : ∀ y ∈ vs, abortP y.ph = true) (hla : ∀ y ∈ ls, lendsP y.ph y.lend = true)
    (G6 : Gr w5 sb hb mb pb fr' (ctOf (anyC r xs) r) hv qv (cfOf (anyC r xs)) 0 0 0 0 0 0 r.ph 1 r (xs.filter (fun x => !has vs x.c)) ls w6 hv1 lv') (c7 : Chg (fun k => k = hb ∨ k = r.c) w6 w7) (M7 : Memb w7 sb r r.ph 1 false lv' nilV)
    (A8 : Ab sb hb mb fr' (ctOf (anyC r xs) r) (cfOf (anyC r xs)) (0 + 1) 0 (0 + boOf ls) 0 0 0 vs w7 vs.length w8) : AcqG w sb hb mb pb fr fr' hv qv page xs qs r vs ls hv1 lv' w8 := by
  have L := I.lay
  have G := L.geo
  have h1 := L.hbN
  have h2 := L.sbN
  have h3 := L.mbN
  have h4 := L.rN
  have h5 := L.hmb
  have h6 := L.pbN
  have hpl5 : pb < w5.heap.size := (Array.getElem?_eq_some_iff.1 M5.pl).1
  have hrl5 := M5.coh.lt
  have hxl5 : ∀ x ∈ xs, x.c < w5.heap.size := fun x hx => (M5.mem x hx).lt
  have hhl5 : hb < w5.heap.size := (Array.getElem?_eq_some_iff.1 M5.site.host).1
  have c78 : Chg (fun b => b = hb ∨ b = r.c ∨ ∃ y ∈ vs, b = y.c) w6 w8 := (c7.mono (fun q _ h => by rcases h with h | h; exact .inl h; exact .inr (.inl h))).trans (A8.chg.mono (fun q _ h => by rcases h with h | h; exact .inl h; exact .inr (.inr h)))
  have hxv : ∀ {b}, (b = hb ∨ b = r.c ∨ ∃ y ∈ vs, b = y.c) → b = hb ∨ b = r.c ∨ ∃ x ∈ xs, b = x.c := fun h => by
    rcases h with h | h | ⟨y, hy, h⟩
    · exact .inl h
    · exact .inr (.inl h)
    · exact .inr (.inr ⟨y, hvx.subset hy, h⟩)
  have hxl : ∀ {b}, (b = hb ∨ b = r.c ∨ ∃ y ∈ ls, b = y.c) → b = hb ∨ b = r.c ∨ ∃ x ∈ xs, b = x.c := fun h => by
    rcases h with h | h | ⟨y, hy, h⟩
    · exact .inl h
    · exact .inr (.inl h)
    · exact .inr (.inr ⟨y, hlx.subset hy, h⟩)
  have offC : ∀ {b}, Off sb hb xs r b → ¬ (b = hb ∨ b = r.c ∨ ∃ x ∈ xs, b = x.c) := fun {b} ho h => by
    rcases h with h | h | ⟨x, hx, h⟩
    · exact ho.1 h
    · have := ho.2.2.2; omega
    · have := ho.2.2.1 x hx; omega
  have newC : ∀ {b}, w5.heap.size ≤ b → ¬ (b = hb ∨ b = r.c ∨ ∃ x ∈ xs, b = x.c) := fun {b} hb' h => by
    rcases h with h | h | ⟨x, hx, h⟩
    · omega
    · omega
    · have := hxl5 x hx; omega
  have mbC : ¬ (mb = hb ∨ mb = r.c ∨ ∃ x ∈ xs, mb = x.c) := fun h => by
    rcases h with h | h | ⟨x, hx, h⟩
    · omega
    · omega
    · have := L.xsN x hx; omega
  refine ⟨?_, ?_, ?_, ?_, ?_, ?_, ?_, ?_, ?_, ?_, ?_⟩
  · refine ((C4.mono (fun q _ h => .inl h)).trans (Chg.of_below hb5)).trans ((G6.chg.mono (fun q _ h => ?_)).trans (c78.mono (fun q _ h => ?_)))
    · rcases h with h | h | h
      · exact .inr (.inl h)
      · exact .inr (.inr (.inl h))
      · rcases hxl h with h | h | h
        · exact .inl (.inr (.inr (.inr h)))
        · exact .inr (.inr (.inr (.inr (.inl h))))
        · exact .inr (.inr (.inr (.inr (.inr h))))
    · rcases hxv h with h | h | h
      · exact .inl (.inr (.inr (.inr h)))
      · exact .inr (.inr (.inr (.inr (.inl h))))
      · exact .inr (.inr (.inr (.inr (.inr h))))
  · refine c78.heap (G6.chg.heap M5.map (fun h => ?_)) (fun h => mbC (hxv h))
    rcases h with h | h | h
    · omega
    · have := (L.hvN mb h).1; omega
    · exact mbC (hxl h)
  · exact c78.heap G6.pl (fun h => offC G.offP (hxv h))
  · refine G6.rq.chg c78 (fun b hb' h => ?_)
    rcases G6.inn b hb' with h9 | h9
    · exact offC (G.offH b h9).1 (hxv h)
    · exact newC (Nat.le_of_lt h9) (hxv h)
  · refine (M5.que.chg G6.chg (fun b hb' h => ?_)).chg c78 (fun b hb' h => offC (G.offQ b hb').1 (hxv h))
    rcases h with h | h | h
    · exact (G.offQ b hb').2 h
    · exact (G.offH b h).2.2 hb'
    · exact offC (G.offQ b hb').1 (hxl h)
  · have := A8.site
    rw [List.take_length] at this
    simpa using this
  · have := M7.low
    refine M7.chg A8.chg ?_ ?_ ?_ <;> (rintro (h | ⟨y, hy, h⟩); omega; have := G.low y (hvx.subset hy); omega)
  · exact G6.lend.chg c78 (fun b hb' h => newC (Nat.le_of_lt (G6.newL b hb')) (hxv h))
  · intro y hy
    obtain ⟨lo, M, hlo, hnw⟩ := G6.loan y hy
    have hyx := hlx.subset hy
    have hlow := M.low
    have hg := G.low y hyx
    have key : ∀ k, (k = y.c ∨ k = y.c - 1 ∨ k = y.c - 2) → ¬ (k = hb ∨ k = r.c ∨ ∃ y ∈ vs, k = y.c) := by
      intro k hk h
      rcases h with h | h | ⟨l, hl', h⟩
      · omega
      · omega
      · have hne : y ≠ l := fun e => by subst e; exact lend_not_abort (hva _ hl') (hla _ hy)
        have := G.far.of_mem hyx (hvx.subset hl') hne
        omega
    have M8 := M.chg c78 (key _ (.inl rfl)) (key _ (.inr (.inl rfl))) (key _ (.inr (.inr rfl)))
    exact ⟨lo, by rw [M8.cell]; rfl, hlo.chg c78 (fun b hb' h => newC (Nat.le_of_lt (hnw b hb')) (hxv h))⟩
  · intro y hy
    obtain ⟨j, hj⟩ := List.getElem?_of_mem hy
    have M8 := A8.done j y (List.getElem?_eq_some_iff.1 hj).1 hj
    rw [M8.cell]; rfl
  · intro x hx
    by_cases hv : x ∈ vs
    · obtain ⟨j, hj⟩ := List.getElem?_of_mem hv
      exact (A8.done j x (List.getElem?_eq_some_iff.1 hj).1 hj).isC
    have hg := G.low x hx
    have n78 : ¬ (x.c = hb ∨ x.c = r.c ∨ ∃ y ∈ vs, x.c = y.c) := by
      rintro (h | h | ⟨y, hy, h⟩)
      · omega
      · omega
      · have hne : x ≠ y := fun e => hv (by rw [e]; exact hy)
        have := G.far.of_mem hx (hvx.subset hy) hne
        omega
    by_cases hl : x ∈ ls
    · obtain ⟨lo, M, hlo, hnw⟩ := G6.loan x hl
      exact M.isC.chg c78 n78
    · refine ((M5.mem x hx).isC.chg G6.chg ?_).chg c78 n78
      rintro (h | h | h | h | ⟨y, hy, h⟩)
      · have := G.offP.2.2.1 x hx; omega
      · have := (G.offH x.c h).1.2.2.1 x hx; omega
      · omega
      · omega
      · have hne : x ≠ y := fun e => hl (by rw [e]; exact hy)
        have := G.far.of_mem hx (hlx.subset hy) hne
        omega

/-- the test of the loop that looks for r's place. -/
def AtK (r : Ent) (qs : List Ent) (k n : Nat) (W wx : World) (v : Value) : Prop := Below W.heap.size W wx ∧ ((v = .bool true ∧ k < n ∧ k + 1 + insI r (qs.drop (k + 1)) = insI r qs) ∨ (v = .bool false ∧ k = insI r qs))
theorem insI_drop {r : Ent} {qs : List Ent} {k : Nat} {q : Ent} (h : qs[k]? = some q) : insI r (qs.drop k) = if rank r.p q.p then 0 else insI r (qs.drop (k + 1)) + 1 := by
  have hlt := (List.getElem?_eq_some_iff.1 h).1
  rw [List.drop_eq_getElem_cons hlt, (List.getElem?_eq_some_iff.1 h).2, insI]

theorem acqR_made {N0 sb hb mb pb : Nat} {fr fr' hv qv : Value} {page : Int} {xs qs : List Ent} {r : Ent} {w W8 W9 w9 : World} (I : Ini N0 sb hb mb pb fr fr' hv qv page xs qs r w) (C8 : Chg (T0 sb hb mb fr) w W8) (M8 : Mid sb hb mb pb fr' hv qv page xs qs r (anyC r xs) W8) (hB : Below W8.heap.size W8 W9)
    {v' : Value} (q9 : Reqs w9 v' (insAt qs (insI r qs) r)) (c9 : Chg (InV qv) W9 w9) (n9 : ∀ b, InV v' b → InV qv b ∨ W9.heap.size ≤ b) : AcqR w sb hb mb pb fr fr' hv qv page xs qs r false v' (w9.setCell ⟨pb, 1, none⟩ v') ∧ w9.cell? ⟨pb, 1, none⟩ = some qv ∧ w9.frozen? ⟨pb, 1, none⟩ = false := by
  have L := I.lay
  have G := L.geo
  have M9 := M8.below hB
  have h1 := L.hbN
  have h2 := L.sbN
  have h3 := L.mbN
  have h4 := L.rN
  have h6 := L.pbN
  have hpl9 : pb < W9.heap.size := (Array.getElem?_eq_some_iff.1 M9.pl).1
  have hp9 := c9.heap M9.pl (fun h => (L.qvN pb h).2.2.2 rfl)
  obtain ⟨_, q1, _, g1⟩ := plcell hp9
  have cP : Chg (fun k => k = pb ∨ InV qv k) W9 (w9.setCell ⟨pb, 1, none⟩ v') := (c9.mono (fun q _ h => .inr h)).trans ((chg_set w9 pb 1 v').mono (fun q _ h => .inl h))
  have off : ∀ {b}, (b = pb ∨ InV qv b) → Off sb hb xs r b := fun h => by
    rcases h with rfl | h
    · exact G.offP
    · exact (G.offQ _ h).1
  refine ⟨⟨?_, ?_, ?_, ?_, ?_, ?_, ?_, ?_⟩, q1, g1⟩
  · refine ((C8.mono (fun q _ h => .inl h)).trans (Chg.of_below hB)).trans (cP.mono (fun q _ h => ?_))
    rcases h with h | h
    · exact .inr (.inl h)
    · exact .inr (.inr (.inr (.inl h)))
  · refine cP.heap M9.map (fun h => ?_)
    rcases h with h | h
    · omega
    · have := (L.qvN mb h).1; omega
  · rw [heap_setCell_same w9 pb 1 _ 72 _ hp9]; rfl
  · refine M9.hol.chg cP (fun b hb' h => ?_)
    rcases h with h | h
    · exact (G.offH b hb').2.1 h
    · exact (G.offH b hb').2.2 h
  · refine q9.chg (chg_set w9 pb 1 v') (fun b hb' h => ?_)
    rcases n9 b hb' with h9 | h9
    · exact (G.offQ b h9).2 h
    · omega
  · exact M9.site.chg cP (fun h => (off h).2.1 rfl) (fun h => (off h).1 rfl)
  · have hl := M9.coh.low
    refine M9.coh.chg cP ?_ ?_ ?_ <;> (intro h; have := (off h).2.2.2; omega)
  · intro b hb'
    rcases n9 b hb' with h | h
    · exact .inl h
    · have := hB.size; have := C8.size; exact .inr (by omega)

theorem eq_nilP (a : Addr) (w : World) : (binOp .eql 69 (.pointer (some a)) (.pointer none)).run Yba.prog w = .ok (.bool false) w := by kernel_rfl
theorem eq_nilN (w : World) : (binOp .eql 69 (.pointer none) (.pointer none)).run Yba.prog w = .ok (.bool true) w := by kernel_rfl

theorem Coh.drew {w : World} {e : Ent} (h : Coh w e) : Coh w.drew e := ⟨h.tx, h.phase, h.lends, h.due⟩
theorem eg_P (a : Addr) (w : World) : (eqGuard .eql 69 (.tmp 21) (.const (.pointer none)) (.pointer (some a)) (.pointer none)).run Yba.prog w = .ok () w := by kernel_rfl
theorem eg_N (w : World) : (eqGuard .eql 69 (.tmp 21) (.const (.pointer none)) (.pointer none) (.pointer none)).run Yba.prog w = .ok () w := by kernel_rfl
set_option maxRecDepth 100000 in
set_option maxHeartbeats 1000000 in
theorem acquire_is (N0 sb hb mb pb : Nat) (fr fr' hv qv : Value) (page : Int) (xs qs : List Ent) (r : Ent) (w : World) (I : Ini N0 sb hb mb pb fr fr' hv qv page xs qs r w) :
    Calls Yba.prog 20 #[.pointer (some ⟨sb, 15, none⟩), .pointer (some ⟨r.c, 0, none⟩), .int .i64 page, .int .u8 r.m] w fun e w' => AcqEnds w sb hb mb pb fr fr' hv qv page xs qs r e w' := by
  have HI : Hid (Ini N0 sb hb mb pb fr fr' hv qv page xs qs r w) := I
  have c15 : w.cell? ⟨sb, 15, none⟩ = some (.map (some mb)) := by rw [cell_of_row _ _ _ _ _ _ I.site.site]; rfl
  obtain ⟨v, ab, hlk, heq, heg, hcase⟩ : ∃ v ab, (Instr.lookup 51 (.map (some mb)) (.int .i64 page) false).run Yba.prog w = .ok v w ∧ (binOp .eql 69 v (.pointer none)).run Yba.prog w = .ok (.bool ab) w ∧ (eqGuard .eql 69 (.tmp 21) (.const (.pointer none)) v (.pointer none)).run Yba.prog w = .ok () w ∧
      ((ab = false ∧ v = .pointer (some ⟨pb, 0, none⟩) ∧ w.heap[mb]? = some (.map (oneE page pb) 1) ∧ w.heap[pb]? = some (.cells #[hv, qv] 72 (0, 0)) ∧ fr' = fr) ∨
       (ab = true ∧ v = .pointer none ∧ ((w.heap[mb]? = some (.map #[] 0) ∧ pb = w.heap.size ∧ hv = nilV ∧ qv = nilV ∧ fr = nilV ∧ fr' = nilV) ∨
        (w.heap[mb]? = some (.map #[] 0) ∧ ∃ fb, fr = .slice (some ⟨fb, 0, none⟩) 1 1 ∧ fr' = .slice (some ⟨fb, 0, none⟩) 0 1 ∧ w.heap[fb]? = some (.cells #[.pointer (some ⟨pb, 0, none⟩)] 69 (0, 0)) ∧ fb ≠ sb ∧ fb ≠ hb ∧ fb ≠ mb ∧ w.heap[pb]? = some (.cells #[nilV, nilV] 72 (0, 0)) ∧ hv = nilV ∧ qv = nilV)))) := by
    rcases I.pre with ⟨h1, h2, h3⟩ | ⟨h1, h2⟩ | ⟨h1, h2⟩
    · exact ⟨_, false, lookup_one page h1, eq_nilP _ w, eg_P _ w, .inl ⟨rfl, rfl, h1, h2, h3⟩⟩
    · exact ⟨_, true, lookup_none page h1, eq_nilN w, eg_N w, .inr ⟨rfl, rfl, .inl ⟨h1, h2⟩⟩⟩
    · exact ⟨_, true, lookup_none page h1, eq_nilN w, eg_N w, .inr ⟨rfl, rfl, .inr ⟨h1, h2⟩⟩⟩
  have HC : Hid _ := hcase
  clear I hcase
  go_enter Yba.func20, Yba.ntmps20
  go_upto_if 22 with fail
  go_cut [9] (fun v9 wx => v9 = .pointer (some ⟨pb, 0, none⟩) ∧ Chg (T0 sb hb mb fr) w wx ∧ Mid sb hb mb pb fr' hv qv page xs qs r false wx)
  case first =>
    --<A
    rcases HC.out with ⟨rfl, rfl, h1, h2, rfl⟩ | ⟨rfl, rfl, h⟩
    · clear hlk heq heg
      go_wp2
      go_meet
      case rel => exact ⟨rfl, Chg.refl _ _, HI.out.mid (Chg.refl _ _) h1 h2 HI.out.site⟩
    · rcases h with ⟨h1, rfl, rfl, rfl, rfl, rfl⟩ | ⟨h1, fb, rfl, rfl, hfb, hn1, hn2, hn3, hsp, rfl, rfl⟩
      · have hsb : sb < w.heap.size := block_lt_of_cell c15
        have hml : mb < w.heap.size := (Array.getElem?_eq_some_iff.1 h1).1
        have HP : Hid (Calls Yba.prog 27 #[.pointer (some ⟨sb, 15, none⟩)] w fun e w' => e = .returned (.pointer (some ⟨w.heap.size, 0, none⟩)) ∧ w' = w.alloc (.cells #[nilV, nilV] 72)) := newPl_new HI.out.site
        have H1 : Hid (w.heap[mb]? = some (.map #[] 0)) := h1
        have hup := upd_first (w := w.alloc (.cells #[nilV, nilV] 72)) page w.heap.size (mb := mb) (by rw [Below.heap_alloc _ _ _ hml]; exact h1)
        clear h1 hlk heq heg
        go_wp2_with fail
        with_reducible refine HP.out.mono ?_
        rintro e w1 ⟨rfl, rfl⟩
        go_wp2
        go_meet
        case rel =>
          have hB : Below w.heap.size w (w.alloc (.cells #[nilV, nilV] 72)) := (Below.refl _ _).alloc (Nat.le_refl _) _
          have c : Chg (T0 sb hb mb nilV) w (putE (w.alloc (.cells #[nilV, nilV] 72)) mb page w.heap.size) := (Chg.of_below hB).trans ((chg_putE _ mb page _).mono (fun q _ h => .inl h))
          have hmb := HI.out.lay.hmb
          have hpm := HI.out.lay.pbN.2.2.1
          refine ⟨rfl, c, HI.out.mid c (putE_at page _ (o := .map #[] 0) (by rw [Below.heap_alloc _ _ _ hml]; exact H1.out)) ((chg_putE _ mb page _).heap (heap_alloc_new _ _) (by omega)) ((HI.out.site.below hB).chg (chg_putE _ mb page _) (by omega) (by omega))⟩
      · have HP : Hid (Calls Yba.prog 27 #[.pointer (some ⟨sb, 15, none⟩)] w fun e w' => e = .returned (.pointer (some ⟨pb, 0, none⟩)) ∧ Chg (fun k => k = fb ∨ k = sb) w w' ∧ Site w' sb hb mb (.slice (some ⟨fb, 0, none⟩) 0 1) 0 (.pointer none) 0 0 0 0 0 0) := newPl_old HI.out.site hfb hn1 hn2
        have H1 : Hid (w.heap[mb]? = some (.map #[] 0)) := h1
        have HSP : Hid (w.heap[pb]? = some (.cells #[nilV, nilV] 72 (0, 0))) := hsp
        have hmb := HI.out.lay.hmb
        have hpn := HI.out.lay.pbN
        have hpf : pb ≠ fb := fun h => hpn.2.2.2.1 (by rw [h]; exact inV_of rfl)
        have hmf : mb ≠ fb := fun h => hn3 h.symm
        clear h1 hlk heq heg hfb hsp
        go_wp2_with fail
        with_reducible refine HP.out.mono ?_
        rintro e w1 ⟨rfl, c1, S1⟩
        have hm1 : w1.heap[mb]? = some (.map #[] 0) := c1.heap H1.out (by omega)
        have d15 : w1.cell? ⟨sb, 15, none⟩ = some (.map (some mb)) := by rw [cell_of_row _ _ _ _ _ _ S1.site]; rfl
        have hup := upd_first (w := w1) page pb hm1
        have HM1 : Hid (w1.heap[mb]? = some (.map #[] 0)) := hm1
        clear c15 hm1
        go_wp2
        go_meet
        case rel =>
          have c : Chg (T0 sb hb mb (.slice (some ⟨fb, 0, none⟩) 1 1)) w (putE w1 mb page pb) := (c1.mono (fun q _ h => by
            rcases h with h | h
            · exact .inr (.inr (.inl (inV_of h)))
            · exact .inr (.inl h))).trans ((chg_putE _ mb page _).mono (fun q _ h => .inl h))
          refine ⟨rfl, c, HI.out.mid c (putE_at page _ HM1.out) ((chg_putE _ mb page _).heap (c1.heap HSP.out (by omega)) (by omega)) (S1.chg (chg_putE _ mb page _) (by omega) (by omega))⟩
    -->A
  case rest =>
    clear hlk heq heg HC c15
    obtain ⟨rfl, hc, M⟩ := hcut
    obtain ⟨W, hW⟩ : ∃ W, W = wc := ⟨_, rfl⟩
    subst hW
    have HM : Hid (Mid sb hb mb pb fr' hv qv page xs qs r false W) := M
    have HCW : Hid (Chg (T0 sb hb mb fr) w W) := hc
    have hmf' := hmf
    clear hc
    obtain ⟨p0, p1, f0, f1⟩ := plcell M.pl
    clear M
    go_upto_region 6 with fail
    have hbx : (W.alloc (.cells #[.pointer (some ⟨r.c, 0, none⟩), .int .u8 r.m] 79)).heap[W.heap.size]? = some (.cells #[.pointer (some ⟨r.c, 0, none⟩), .int .u8 r.m] 79 (0, 0)) := heap_alloc_new _ _
    have hB1 : Below W.heap.size W (W.alloc (.cells #[.pointer (some ⟨r.c, 0, none⟩), .int .u8 r.m] 79)) := (Below.refl _ _).alloc (Nat.le_refl _) _
    have M1 := HM.out.below hB1
    have C1 := HCW.out.trans (Chg.of_below hB1)
    have hBs := HCW.out.size
    clear p0 p1 f0 f1 hB1 HM HCW
    generalize W.alloc (.cells #[.pointer (some ⟨r.c, 0, none⟩), .int .u8 r.m] 79) = W1 at *
    generalize W.heap.size = B at *
    have HBs : Hid (w.heap.size ≤ B) := hBs
    have HM1 : Hid (Mid sb hb mb pb fr' hv qv page xs qs r false W1) := M1
    have HC1 : Hid (Chg (T0 sb hb mb fr) w W1) := C1
    have HB1 : Hid (W1.heap[B]? = some (.cells #[.pointer (some ⟨r.c, 0, none⟩), .int .u8 r.m] 79 (0, 0))) := hbx
    go_cut [40] (fun v wx => v = .bool (anyC r xs) ∧ Chg (T0 sb hb mb fr) w wx ∧ Mid sb hb mb pb fr' hv qv page xs qs r false wx ∧ wx.heap[B]? = some (.cells #[.pointer (some ⟨r.c, 0, none⟩), .int .u8 r.m] 79 (0, 0)))
    case first =>
      --<B
      obtain ⟨p0, _, _, _⟩ := plcell M1.pl
      obtain ⟨x0, x1⟩ := rqcell hbx
      have HK : Hid (Calls Yba.prog 28 #[hv, .func (.func 29) #[.agg #[.pointer (some ⟨r.c, 0, none⟩), .int .u8 r.m]] #[]] W1.drew fun e w' => e = .returned (.bool (anyC r xs)) ∧ Below W1.drew.heap.size W1.drew w') := containsFunc_is r.c r.m hv xs W1.drew M1.hol (by have := HI.out.len; omega)
      clear M1 C1 hbx
      go_region_held3 (fun w' => w'.cell? ⟨pb, 0, none⟩ = some hv ∧ w'.cell? ⟨B, 0, none⟩ = some (.pointer (some ⟨r.c, 0, none⟩)) ∧ w'.cell? ⟨B, 1, none⟩ = some (.int .u8 r.m))
        (first | exact ⟨p0, x0, x1⟩ | exact ⟨Below.keep (by assumption) (And.left (by assumption)), Below.keep (by assumption) (And.left (And.right (by assumption))), Below.keep (by assumption) (And.right (And.right (by assumption)))⟩)
        ((go_at_call 28; with_reducible refine HK.out.mono ?_; rintro e w2 ⟨rfl, hb2⟩))
      go_wp2
      go_meet
      case rel =>
        have hB2 : Below W1.heap.size W1 w2 := ⟨hb2.os, hb2.tape, hb2.output, hb2.size, hb2.block⟩
        exact ⟨rfl, HC1.out.trans (Chg.of_below hB2), HM1.out.below hB2, (Chg.of_below (S := fun _ => False) hB2).heap HB1.out (fun h => h)⟩
      -->B
    case rest =>
      clear M1 C1 hbx HM1 HC1 HB1
      obtain ⟨rfl, C2, M2, hbx⟩ := hcut
      obtain ⟨W2, hW2⟩ : ∃ W2, W2 = wc := ⟨_, rfl⟩
      subst hW2
      have HM2 : Hid (Mid sb hb mb pb fr' hv qv page xs qs r false W2) := M2
      have HC2 : Hid (Chg (T0 sb hb mb fr) w W2) := C2
      have HB2 : Hid (W2.heap[B]? = some (.cells #[.pointer (some ⟨r.c, 0, none⟩), .int .u8 r.m] 79 (0, 0))) := hbx
      clear M2 C2 hbx
      go_upto_if 40 with fail
      go_cut [] (fun wx => Chg (T0 sb hb mb fr) w wx ∧ Mid sb hb mb pb fr' hv qv page xs qs r (anyC r xs) wx ∧ wx.heap[B]? = some (.cells #[.pointer (some ⟨r.c, 0, none⟩), .int .u8 r.m] 79 (0, 0)))
      case first =>
        --<C
        by_cases ha : anyC r xs = true
        · have c0 : W2.cell? ⟨r.c, 0, none⟩ = some (.pointer (some ⟨sb, 0, none⟩)) := by rw [HM2.out.coh.cell]; rfl
          have c1 : W2.cell? ⟨r.c, 1, none⟩ = some (.pointer (some ⟨r.c - 1, 0, none⟩)) := by rw [HM2.out.coh.cell]; rfl
          have s0 : W2.cell? ⟨sb, 0, none⟩ = some (.iface 46 (.pointer (some ⟨hb, 0, none⟩))) := by rw [cell_of_row _ _ _ _ _ _ HM2.out.site.site]; rfl
          have HP : Hid (Calls Yba.prog 89 #[.pointer (some ⟨hb, 0, none⟩), .pointer (some ⟨r.c - 1, 0, none⟩)] W2.drew fun e w' => e = .returned (.tuple #[]) ∧ w' = (W2.drew.setCell ⟨hb, 0, none⟩ (.int .i64 (0 + 1))).setCell ⟨hb, 1, none⟩ (.pointer (some ⟨r.c - 1, 0, none⟩))) :=
            conflict89 hb _ (.pointer none) 0 W2.drew (by show W2.cell? _ = _; rw [cell_of_row _ _ _ _ _ _ HM2.out.site.host]; rfl) (by show W2.cell? _ = _; rw [cell_of_row _ _ _ _ _ _ HM2.out.site.host]; rfl) (frozen_of_row W2 hb 0 _ 49 HM2.out.site.host) (frozen_of_row W2 hb 1 _ 49 HM2.out.site.host) (by omega) (by omega)
          have hne := HM2.out.site.ne
          have hL := HI.out.lay
          have hrc : r.c ≠ hb := by have := hL.rN; have := hL.hbN; omega
          clear hL
          have na := na_conflict
          have ms := m_conflict
          have hk2 : ∀ {W : World} {v1 v2 : Value}, Chg (· = hb) W ((W.setCell ⟨hb, 0, none⟩ v1).setCell ⟨hb, 1, none⟩ v2) := fun {W v1 v2} => (chg_set W hb 0 v1).trans (chg_set _ hb 1 v2)
          have HK2 : Hid (∀ {W : World} {v1 v2 : Value}, Chg (· = hb) W ((W.setCell ⟨hb, 0, none⟩ v1).setCell ⟨hb, 1, none⟩ v2)) := hk2
          clear hk2
          rw [ha]
          go_upto_region 7 with fail
          go_region_held3 (fun w' => w'.cell? ⟨r.c, 0, none⟩ = some (.pointer (some ⟨sb, 0, none⟩)) ∧ w'.cell? ⟨r.c, 1, none⟩ = some (.pointer (some ⟨r.c - 1, 0, none⟩)) ∧ w'.cell? ⟨r.c, 1, none⟩ = some (.pointer (some ⟨r.c - 1, 0, none⟩)) ∧ w'.cell? ⟨sb, 0, none⟩ = some (.iface 46 (.pointer (some ⟨hb, 0, none⟩))))
            (first | exact ⟨c0, c1, c1, s0⟩ | exact keep4c HK2.out hrc hrc hrc hne (by assumption))
            ((go_at_call 89; with_reducible refine HP.out.mono ?_; rintro e w1 ⟨rfl, rfl⟩))
          go_wp2
          go_meet
          case rel =>
            have hc0 : Chg (· = hb) W2 ((W2.setCell ⟨hb, 0, none⟩ (.int .i64 (0 + 1))).setCell ⟨hb, 1, none⟩ (.pointer (some ⟨r.c - 1, 0, none⟩))) := (chg_set W2 hb 0 _).trans (chg_set _ hb 1 _)
            have hcd : Chg (· = hb) W2 ((W2.setCell ⟨hb, 0, none⟩ (.int .i64 (0 + 1))).setCell ⟨hb, 1, none⟩ (.pointer (some ⟨r.c - 1, 0, none⟩))).drew := ⟨hc0.os, hc0.tape, hc0.output, hc0.size, hc0.block⟩
            have hL := HI.out.lay
            have hT := HC2.out.trans (hcd.mono (T := T0 sb hb mb fr) (fun q _ h => .inr (.inr (.inr h))))
            have hbl : hb < w.heap.size := (Array.getElem?_eq_some_iff.1 HI.out.site.host).1
            refine ⟨hT, HI.out.mid hT (hcd.heap HM2.out.map (by have := hL.hmb; omega)) (hcd.heap HM2.out.pl (by have := hL.pbN.1; omega)) ⟨hcd.heap HM2.out.site.site (by omega), ?_⟩, hcd.heap HB2.out (by have := HBs.out; omega)⟩
            show ((W2.setCell ⟨hb, 0, none⟩ (.int .i64 (0 + 1))).setCell ⟨hb, 1, none⟩ (.pointer (some ⟨r.c - 1, 0, none⟩))).heap[hb]? = _
            rw [heap_setCell_same _ hb 1 _ 49 _ (heap_setCell_same W2 hb 0 _ 49 _ HM2.out.site.host), ha]
            rfl
        · have ha' : anyC r xs = false := by simpa using ha
          rw [ha']
          go_wp2
          go_meet
          case rel => exact ⟨HC2.out, by rw [ha']; exact HM2.out, HB2.out⟩
        -->C
      case rest =>
        clear HM2 HC2 HB2
        obtain ⟨C3, M3, hbx⟩ := hcut
        obtain ⟨W3, hW3⟩ : ∃ W3, W3 = wc := ⟨_, rfl⟩
        subst hW3
        have HM3 : Hid (Mid sb hb mb pb fr' hv qv page xs qs r (anyC r xs) W3) := M3
        have HC3 : Hid (Chg (T0 sb hb mb fr) w W3) := C3
        have HB3 : Hid (W3.heap[B]? = some (.cells #[.pointer (some ⟨r.c, 0, none⟩), .int .u8 r.m] 79 (0, 0))) := hbx
        obtain ⟨p0, p1, _, _⟩ := plcell M3.pl
        obtain ⟨x0, x1⟩ := rqcell hbx
        clear M3 C3 hbx p0
        go_upto_region 8 with fail
        go_cut [70] (fun v wx => v = .bool (headOK r qs) ∧ Chg (T0 sb hb mb fr) w wx ∧ Mid sb hb mb pb fr' hv qv page xs qs r (anyC r xs) wx ∧ wx.heap[B]? = some (.cells #[.pointer (some ⟨r.c, 0, none⟩), .int .u8 r.m] 79 (0, 0)))
        case first =>
          --<D
          obtain ⟨ao, cap, hqE⟩ := HM3.out.que.len
          cases qs with
          | nil =>
            subst hqE
            simp only [List.length_nil] at *
            go_quiet (fail)
            go_wp2
            go_meet
            case rel =>
              have hB2 : Below W3.heap.size W3 (W3.drewN nq) := ⟨rfl, rfl, rfl, Nat.le_refl _, fun _ _ => rfl⟩
              exact ⟨rfl, HC3.out.trans (Chg.of_below hB2), HM3.out.below hB2, HB3.out⟩
          | cons q qt =>
            obtain ⟨b, cap', hE, y0, y1⟩ := HM3.out.que.cells (j := 0) (e := q) rfl
            rw [hqE] at hE
            have hao : ao = some ⟨b, 0, none⟩ := by injection hE
            have HK : Hid (Calls Yba.prog 30 #[.agg #[.pointer (some ⟨r.c, 0, none⟩), .int .u8 r.m], .agg #[.pointer (some ⟨q.c, 0, none⟩), .int .u8 q.m]] W3.drew fun e w' => e = .returned (.bool (rank r.p q.p)) ∧ Below W3.drew.heap.size W3.drew w') := outranks30 r q r.m q.m W3.drew HM3.out.coh.toCoh.drew (HM3.out.mem2 q (by simp)).toCoh.drew
            simp only [List.length_cons, Nat.zero_mul, Nat.zero_add] at y0 y1 hqE
            clear hE
            subst hao
            subst hqE
            generalize hqt : qt.length = n at *
            have hd0 : (((n + 1 : Nat) : Int) == 0) = false := beq_eq_false_iff_ne.2 (by omega)
            have hd1 : (((n : Int) + 1) == 0) = false := beq_eq_false_iff_ne.2 (by omega)
            have hd2 : ((n : Int) + 1) ≠ 0 := by omega
            go_region_held3 (fun w' => w'.cell? ⟨pb, 1, none⟩ = some (.slice (some ⟨b, 0, none⟩) (n + 1) cap) ∧ w'.cell? ⟨B, 0, none⟩ = some (.pointer (some ⟨r.c, 0, none⟩)) ∧ w'.cell? ⟨B, 1, none⟩ = some (.int .u8 r.m) ∧ w'.cell? ⟨b, 0, none⟩ = some (.pointer (some ⟨q.c, 0, none⟩)) ∧ w'.cell? ⟨b, 1, none⟩ = some (.int .u8 q.m))
              (first | exact ⟨p1, x0, x1, y0, y1⟩ | exact ⟨Below.keep (by assumption) (And.left (by assumption)), Below.keep (by assumption) (And.left (And.right (by assumption))), Below.keep (by assumption) (And.left (And.right (And.right (by assumption)))), Below.keep (by assumption) (And.left (And.right (And.right (And.right (by assumption))))), Below.keep (by assumption) (And.right (And.right (And.right (And.right (by assumption)))))⟩)
              ((go_at_call 30; with_reducible refine HK.out.mono ?_; rintro e w2 ⟨rfl, hb2⟩))
            go_wp2
            go_meet
            case rel =>
              have hB2 : Below W3.heap.size W3 w2 := ⟨hb2.os, hb2.tape, hb2.output, hb2.size, hb2.block⟩
              exact ⟨rfl, HC3.out.trans (Chg.of_below hB2), HM3.out.below hB2, (Chg.of_below (S := fun _ => False) hB2).heap HB3.out (fun h => h)⟩
          -->D
        case rest =>
          clear p1 x0 x1 HM3 HC3 HB3
          obtain ⟨rfl, C4, M4, hbx⟩ := hcut
          obtain ⟨W4, hW4⟩ : ∃ W4, W4 = wc := ⟨_, rfl⟩
          subst hW4
          have HM4 : Hid (Mid sb hb mb pb fr' hv qv page xs qs r (anyC r xs) W4) := M4
          have HC4 : Hid (Chg (T0 sb hb mb fr) w W4) := C4
          have HB4 : Hid (W4.heap[B]? = some (.cells #[.pointer (some ⟨r.c, 0, none⟩), .int .u8 r.m] 79 (0, 0))) := hbx
          obtain ⟨x0, x1⟩ := rqcell hbx
          clear M4 C4 hbx
          go_upto_if 70 with fail
          go_cut [] (fun wx => (headOK r qs = false ∨ tk r xs [] [] = none) ∧ Chg (T0 sb hb mb fr) w wx ∧ Mid sb hb mb pb fr' hv qv page xs qs r (anyC r xs) wx ∧ wx.heap[B]? = some (.cells #[.pointer (some ⟨r.c, 0, none⟩), .int .u8 r.m] 79 (0, 0)))
          case first =>
            --<E
            by_cases hh : headOK r qs = true
            · rw [hh]
              obtain ⟨p0, p1, _, _⟩ := plcell HM4.out.pl
              have HK : Hid (Calls Yba.prog 31 #[.pointer (some ⟨pb, 0, none⟩), .agg #[.pointer (some ⟨r.c, 0, none⟩), .int .u8 r.m]] W4 fun e w' => TkEnds W4 r xs e w') := takers_is pb hv xs r W4 p0 HM4.out.hol (fun x hx => (HM4.out.mem x hx).toCoh) HM4.out.coh.toCoh (by have := HI.out.len; omega)
              clear p0 p1
              go_wp2_with fail
              with_reducible refine HK.out.mono ?_
              rintro e w5 ⟨hb5, hm5⟩
              cases htk : tk r xs [] [] with
              | none =>
                rw [htk] at hm5
                subst hm5
                go_wp2
                go_meet
                case rel => exact ⟨.inr htk, HC4.out.trans (Chg.of_below hb5), HM4.out.below hb5, (Chg.of_below (S := fun _ => False) hb5).heap HB4.out (fun h => h)⟩
              | some p =>
                obtain ⟨vs, ls⟩ := p
                rw [htk] at hm5
                obtain ⟨vv, lv, rfl, hvv, hlv, hnv, hnl⟩ := hm5
                have M5 := HM4.out.below hb5
                have G := HI.out.lay.geo
                obtain ⟨vs', ls', e1, e2, hvx, hlx, hva, hla⟩ := tk_spec r xs [] [] vs ls htk
                simp only [List.nil_append] at e1 e2
                subst e1 e2
                have hpl4 : pb < W4.heap.size := (Array.getElem?_eq_some_iff.1 HM4.out.pl).1
                have hrl4 := HM4.out.coh.lt
                have y0 := hb5.keep x0
                have y1 := hb5.keep x1
                have hvN : ∀ b, InV vv b → r.c < b ∧ ¬ InV hv b ∧ b ≠ pb := fun b hb' => by
                  have := hnv b hb'
                  exact ⟨by omega, fun h => by have := Own.lt HM4.out.hol h; omega, by omega⟩
                have hlN : ∀ b, InV lv b → r.c < b ∧ ¬ InV hv b ∧ b ≠ pb := fun b hb' => by
                  have := hnl b hb'
                  exact ⟨by omega, fun h => by have := Own.lt HM4.out.hol h; omega, by omega⟩
                have HGr : Hid (Calls Yba.prog 32 #[.pointer (some ⟨pb, 0, none⟩), .agg #[.pointer (some ⟨r.c, 0, none⟩), .int .u8 r.m], vv, lv] w5 fun e w' => e = .returned (.tuple #[]) ∧ ∃ hv1 lv', Gr w5 sb hb mb pb fr' (ctOf (anyC r xs) r) hv qv (cfOf (anyC r xs)) 0 0 0 0 0 0 r.ph 1 r (xs.filter (fun x => !has vs x.c)) ls w' hv1 lv') :=
                  grant_is vv lv hv qv vs ls xs r r.ph sb hb mb pb fr' _ _ 0 0 0 0 0 0 w5 G M5.pl M5.hol hvv hlv M5.mem M5.coh M5.site hvx hlx hvN hlN HI.out.len (by omega) (by omega)
                have HH : Hid (headOK r qs = true) := hh
                have HTK : Hid (tk r xs [] [] = some (vs, ls)) := htk
                have HM5 : Hid (Mid sb hb mb pb fr' hv qv page xs qs r (anyC r xs) w5) := M5
                have HG : Hid (Geo sb hb pb hv qv xs r) := G
                have HVX : Hid (vs.Sublist xs) := hvx
                have HLX : Hid (ls.Sublist xs) := hlx
                have HVA : Hid (∀ y ∈ vs, abortP y.ph = true) := hva
                have HLA : Hid (∀ y ∈ ls, lendsP y.ph y.lend = true) := hla
                have HVN : Hid (∀ b, InV vv b → W4.heap.size ≤ b) := hnv
                have HVV : Hid (Cohs w5 vv vs) := hvv
                have HB5 : Hid (Below W4.heap.size W4 w5) := hb5
                clear hh htk M5 G hvx hlx hva hla hvN hlN hnv hnl hvv hlv hb5 x0 x1
                go_wp2_with fail
                with_reducible refine HGr.out.mono ?_
                rintro e w6 ⟨rfl, hv1, lv', G6⟩
                have HG6 : Hid (Gr w5 sb hb mb pb fr' (ctOf (anyC r xs) r) hv qv (cfOf (anyC r xs)) 0 0 0 0 0 0 r.ph 1 r (xs.filter (fun x => !has vs x.c)) ls w6 hv1 lv') := G6
                have HLg : Hid (Calls Yba.prog 33 #[.pointer (some ⟨r.c, 0, none⟩)] w6 fun e w' => e = .returned (.tuple #[]) ∧ Chg (fun k => k = hb ∨ k = r.c) w6 w' ∧ Memb w' sb r r.ph 1 false lv' nilV ∧ Site w' sb hb mb fr' (cfOf (anyC r xs)) (ctOf (anyC r xs) r) (0 + 1) 0 (0 + boOf ls) 0 0 0) :=
                  lockGranted_is r r.ph lv' sb hb mb fr' _ _ 0 0 _ 0 0 0 w6 G6.coh G6.site HG.out.rlow (by omega) (by omega)
                clear G6 HGr y0 y1
                go_wp2_with fail
                with_reducible refine HLg.out.mono ?_
                rintro e w7 ⟨rfl, c7, M7, S7⟩
                have HC7 : Hid (Chg (fun k => k = hb ∨ k = r.c) w6 w7) := c7
                have HM7 : Hid (Memb w7 sb r r.ph 1 false lv' nilV) := M7
                have HS7 : Hid (Site w7 sb hb mb fr' (cfOf (anyC r xs)) (ctOf (anyC r xs) r) (0 + 1) 0 (0 + boOf ls) 0 0 0) := S7
                have HV7 : Hid (∀ y ∈ vs, Memb w7 sb y y.ph 0 false nilV nilV) := fun y hy => by
                  have M6 := vict_keep HG.out HG6.out.chg HVX.out HLX.out HVA.out HLA.out hy (HM5.out.mem y (HVX.out.subset hy))
                  have := HG.out.low y (HVX.out.subset hy)
                  have := M6.low
                  exact M6.chg c7 (by omega) (by omega) (by omega)
                have hs45 := HB5.out.size
                have HV7C : Hid (Cohs w7 vv vs) := by
                  have hn : ∀ b, InV vv b → ¬ (b = pb ∨ InV hv b ∨ b = hb ∨ b = r.c ∨ ∃ y ∈ ls, b = y.c) := by
                    intro b hb' h
                    have h9 := HVN.out b hb'
                    rcases h with h | h | h | h | ⟨l, hl', h⟩
                    · omega
                    · have := Own.lt HM4.out.hol h; omega
                    · have := HG.out.rlow; omega
                    · omega
                    · have := HG.out.low l (HLX.out.subset hl'); omega
                  refine (HVV.out.chg HG6.out.chg hn).chg c7 (fun b hb' h => hn b hb' ?_)
                  rcases h with h | h
                  · exact .inr (.inr (.inl h))
                  · exact .inr (.inr (.inr (.inl h)))
                have HAb : Hid (Calls Yba.prog 34 #[vv] w7 fun e w' => e = .returned (.tuple #[]) ∧ Ab sb hb mb fr' (ctOf (anyC r xs) r) (cfOf (anyC r xs)) (0 + 1) 0 (0 + boOf ls) 0 0 0 vs w7 vs.length w') := by
                  refine abortAll_is vv vs sb hb mb fr' _ _ _ 0 _ 0 0 0 w7 HV7C.out HV7.out S7 HVA.out (HG.out.far.sublist HVX.out) (fun y hy => by have := HG.out.low y (HVX.out.subset hy); omega) ?_ (by have := HVX.out.length_le; have := HI.out.len; omega) (by omega) (by omega) (by omega) (by omega)
                  intro b hb'
                  have h9 := HVN.out b hb'
                  have h8 := HG.out.rlow
                  exact ⟨by omega, fun y hy => by have := HG.out.low y (HVX.out.subset hy); omega⟩
                clear c7 M7 S7 HLg
                go_wp2_with fail
                with_reducible refine HAb.out.mono ?_
                rintro e w8 ⟨rfl, A8⟩
                go_wp2
                go_ret
                exact .inl ⟨vs, ls, hv1, lv', HH.out, HTK.out, rfl, acqG_made HI.out HC4.out HB5.out HM5.out HVX.out HLX.out HVA.out HLA.out HG6.out HC7.out HM7.out A8⟩
            · have hh' : headOK r qs = false := by simpa using hh
              rw [hh']
              go_wp2
              go_meet
              case rel => exact ⟨.inl hh', HC4.out, HM4.out, HB4.out⟩
            -->E
          case rest =>
            clear x0 x1 HM4 HC4 HB4
            obtain ⟨href, C6, M6, hbx⟩ := hcut
            obtain ⟨W6, hW6⟩ : ∃ W6, W6 = wc := ⟨_, rfl⟩
            subst hW6
            have HRF : Hid (headOK r qs = false ∨ tk r xs [] [] = none) := href
            have HM6 : Hid (Mid sb hb mb pb fr' hv qv page xs qs r (anyC r xs) W6) := M6
            have HC6 : Hid (Chg (T0 sb hb mb fr) w W6) := C6
            have HB6 : Hid (W6.heap[B]? = some (.cells #[.pointer (some ⟨r.c, 0, none⟩), .int .u8 r.m] 79 (0, 0))) := hbx
            clear M6 C6 hbx href
            obtain ⟨ao, cap, hqE⟩ := HM6.out.que.len
            have HQE : Hid (qv = .slice ao qs.length cap) := hqE
            clear hqE
            generalize hgn : qs.length = n at *
            have HN : Hid (qs.length = n) := hgn
            have hn1 : n ≤ 1024 := by have := HI.out.len2; omega
            go_wp2
            go_loopw [14] (fun i wr => ∃ k : Nat, k ≤ n ∧ i = .int .i64 k ∧ k + insI r (qs.drop k) = insI r qs ∧ Below W6.heap.size W6 wr) (fun i _ => n - (intOf i).toNat)
            case atStart => exact ⟨0, by omega, rfl, by simp, Below.refl _ _⟩
            case round =>
              obtain ⟨k, hk, rfl, hins, hB⟩ := hrel
              have HM7 : Hid (Mid sb hb mb pb fr' hv qv page xs qs r (anyC r xs) wr) := HM6.out.below hB
              have HB7 : Hid (wr.heap[B]? = some (.cells #[.pointer (some ⟨r.c, 0, none⟩), .int .u8 r.m] 79 (0, 0))) := (Chg.of_below (S := fun _ => False) hB).heap HB6.out (fun h => h)
              obtain ⟨_, p1, _, _⟩ := plcell HM7.out.pl
              obtain ⟨x0, x1⟩ := rqcell HB7.out
              have HBW : Hid (Below W6.heap.size W6 wr) := hB
              clear hB
              go_upto_region 16 with fail
              go_cut [106] (fun v wx => AtK r qs k n wr wx v)
              case first =>
                --<F
                have hq0 := HQE.out
                by_cases hlt : k < n
                · obtain ⟨q, hq⟩ : ∃ q, qs[k]? = some q := ⟨_, List.getElem?_eq_getElem (by have := HN.out; omega)⟩
                  obtain ⟨b, cap', hE, y0, y1⟩ := HM7.out.que.cells hq
                  rw [hq0] at hE
                  have hao : ao = some ⟨b, 0, none⟩ := by injection hE
                  rw [hq0] at p1
                  have HK : Hid (Calls Yba.prog 30 #[.agg #[.pointer (some ⟨r.c, 0, none⟩), .int .u8 r.m], .agg #[.pointer (some ⟨q.c, 0, none⟩), .int .u8 q.m]] wr.drew fun e w' => e = .returned (.bool (rank r.p q.p)) ∧ Below wr.drew.heap.size wr.drew w') := outranks30 r q r.m q.m wr.drew HM7.out.coh.toCoh.drew (HM7.out.mem2 q (List.mem_of_getElem? hq)).toCoh.drew
                  have hi := insI_drop (r := r) hq
                  rw [hi] at hins
                  have HINS : Hid (k + (if rank r.p q.p then 0 else insI r (qs.drop (k + 1)) + 1) = insI r qs) := hins
                  clear hE hq0 hi hins hq
                  subst hao
                  have hd : decide ((k : Int) < (n : Int)) = true := decide_eq_true (by omega)
                  go_region_held3 (fun w' => w'.cell? ⟨pb, 1, none⟩ = some (.slice (some ⟨b, 0, none⟩) n cap) ∧ w'.cell? ⟨B, 0, none⟩ = some (.pointer (some ⟨r.c, 0, none⟩)) ∧ w'.cell? ⟨B, 1, none⟩ = some (.int .u8 r.m) ∧ w'.cell? ⟨b, k * 2, none⟩ = some (.pointer (some ⟨q.c, 0, none⟩)) ∧ w'.cell? ⟨b, k * 2 + 1, none⟩ = some (.int .u8 q.m))
                    (first | exact ⟨p1, x0, x1, y0, y1⟩ | exact ⟨Below.keep (by assumption) (And.left (by assumption)), Below.keep (by assumption) (And.left (And.right (by assumption))), Below.keep (by assumption) (And.left (And.right (And.right (by assumption)))), Below.keep (by assumption) (And.left (And.right (And.right (And.right (by assumption))))), Below.keep (by assumption) (And.right (And.right (And.right (And.right (by assumption)))))⟩)
                    ((go_at_call 30; with_reducible refine HK.out.mono ?_; rintro e w2 ⟨rfl, hb2⟩))
                  go_wp2
                  go_meet
                  case rel =>
                    have hB2 : Below wr.heap.size wr w2 := ⟨hb2.os, hb2.tape, hb2.output, hb2.size, hb2.block⟩
                    refine ⟨hB2, ?_⟩
                    have h9 := HINS.out
                    cases hrk : rank r.p q.p with
                    | true => rw [hrk] at h9; exact .inr ⟨rfl, by simpa using h9⟩
                    | false => rw [hrk] at h9; exact .inl ⟨rfl, hlt, by rw [← h9]; simp; omega⟩
                · have hd : decide ((k : Int) < (n : Int)) = false := decide_eq_false (by omega)
                  rw [hq0] at p1
                  have h0 : insI r (qs.drop k) = 0 := by rw [List.drop_of_length_le (by have := HN.out; omega)]; rfl
                  rw [h0] at hins
                  have HINS : Hid (k + 0 = insI r qs) := hins
                  clear hq0 h0 hins
                  go_quiet (fail)
                  go_wp2
                  go_meet
                  case rel => exact ⟨⟨rfl, rfl, rfl, Nat.le_refl _, fun _ _ => rfl⟩, .inr ⟨rfl, HINS.out⟩⟩
                -->F
              case rest =>
                clear x0 x1 p1
                obtain ⟨hB8, hor⟩ := hcut
                obtain ⟨W8, hW8⟩ : ∃ W8, W8 = wc := ⟨_, rfl⟩
                subst hW8
                rcases hor with ⟨rfl, hlt, hins2⟩ | ⟨rfl, hki⟩
                · have HR8 : Hid (k + 1 + insI r (qs.drop (k + 1)) = insI r qs) := hins2
                  have HB8 : Hid (Below wr.heap.size wr W8) := hB8
                  clear hins2 hins hB8
                  go_wp2
                  go_roundw
                  case rel => exact ⟨k + 1, by omega, by go_num, HR8.out, HBW.out.next HB8.out⟩
                  case measure => simp [intOf]; omega
                · have HM8 : Hid (Mid sb hb mb pb fr' hv qv page xs qs r (anyC r xs) W8) := HM7.out.below hB8
                  have HB8 : Hid (W8.heap[B]? = some (.cells #[.pointer (some ⟨r.c, 0, none⟩), .int .u8 r.m] 79 (0, 0))) := (Chg.of_below (S := fun _ => False) hB8).heap HB7.out (fun h => h)
                  have HC8 : Hid (Chg (T0 sb hb mb fr) w W8) := (HC6.out.trans (Chg.of_below HBW.out)).trans (Chg.of_below hB8)
                  have HKI : Hid (k = insI r qs) := hki
                  clear hki hins hB8 HM7 HB7 HBW
                  have hlay := HI.out.lay
                  have HB9 : Hid (Below W8.heap.size W8 (W8.alloc (.cells #[.pointer (some ⟨r.c, 0, none⟩), .int .u8 r.m] 79)).drew) := ((Below.refl _ _).alloc (Nat.le_refl _) _).drew
                  have HK : Hid (Calls Yba.prog 35 #[qv, .int .i64 k, .slice (some ⟨W8.heap.size, 0, none⟩) 1 1] (W8.alloc (.cells #[.pointer (some ⟨r.c, 0, none⟩), .int .u8 r.m] 79)).drew fun e w' => InsEnds (W8.alloc (.cells #[.pointer (some ⟨r.c, 0, none⟩), .int .u8 r.m] 79)).drew qv qs k r e w') := by
                    refine insert_is qv qs k r W8.heap.size _ (HM8.out.que.below HB9.out) hlay.qcap (by have := HN.out; omega) (by have := HN.out; omega) ?_ ?_ (fun h => by have := Own.lt HM8.out.que h; omega)
                    · show (W8.alloc _).cell? _ = _
                      simp
                    · show (W8.alloc _).cell? _ = _
                      simp
                  have HQ : Hid (∀ v' w9, Reqs w9 v' (insAt qs k r) → Chg (InV qv) (W8.alloc (.cells #[.pointer (some ⟨r.c, 0, none⟩), .int .u8 r.m] 79)).drew w9 → (∀ b, InV v' b → InV qv b ∨ (W8.alloc (.cells #[.pointer (some ⟨r.c, 0, none⟩), .int .u8 r.m] 79)).drew.heap.size ≤ b) →
                      AcqR w sb hb mb pb fr fr' hv qv page xs qs r false v' (w9.setCell ⟨pb, 1, none⟩ v') ∧ w9.cell? ⟨pb, 1, none⟩ = some qv ∧ w9.frozen? ⟨pb, 1, none⟩ = false) := fun v' w9 q9 c9 n9 => by
                    rw [HKI.out] at q9
                    exact acqR_made HI.out HC8.out HM8.out HB9.out q9 c9 n9
                  obtain ⟨_, p1, _, _⟩ := plcell HM8.out.pl
                  obtain ⟨x0, x1⟩ := rqcell HB8.out
                  have hplt : pb < W8.heap.size := block_lt_of_cell p1
                  have hBlt : B < W8.heap.size := block_lt_of_cell x0
                  clear hlay
                  go_upto_region 18 with fail
                  go_cut [] (fun wx => ∃ qv1, AcqR w sb hb mb pb fr fr' hv qv page xs qs r false qv1 wx)
                  case first =>
                    go_region_with (go_at_call 35; (with_reducible refine HK.out.mono ?_); rintro e w9 ⟨v', rfl, q9, c9, n9⟩; obtain ⟨R9, d1, g1⟩ := HQ.out v' w9 q9 c9 n9; obtain ⟨ao', cc', hE9⟩ := q9.len; subst hE9)
                    all_goals go_wp2
                    all_goals go_meet
                    all_goals exact ⟨_, R9⟩
                  case rest =>
                    clear p1 x0 x1 hplt hBlt HQ HK
                    obtain ⟨qv1, R9⟩ := hcut
                    have c5 : wc.cell? ⟨r.c, 5, none⟩ = some (.bool false) := by rw [R9.coh.cell]; rfl
                    have f5 := R9.coh.free 5
                    have HR9 : Hid (AcqR w sb hb mb pb fr fr' hv qv page xs qs r false qv1 wc) := R9
                    clear R9
                    go_wp2
                    go_ret
                    refine .inr ⟨HRF.out, rfl, qv1, ?_⟩
                    have R := HR9.out
                    have L := HI.out.lay
                    have G := L.geo
                    have cS := chg_set wc r.c 5 (.bool true)
                    have hrn := L.rN
                    have hmn := L.mbN
                    refine ⟨R.chg.trans (cS.mono (fun q _ h => .inr (.inr (.inr (.inr (.inl h)))))), cS.heap R.map (by omega), cS.heap R.pl (fun h => by have := G.offP.2.2.2; omega), R.hol.chg cS (fun b hb' h => by have := (G.offH b hb').1.2.2.2; omega), ?_, R.site.chg cS (by have := G.rlow; omega) (by have := G.rlow; omega), R.coh.setTo 5 (.bool true) rfl, R.inn⟩
                    refine R.que.chg cS (fun b hb' h => ?_)
                    rcases R.inn b hb' with h9 | h9
                    · have := (G.offQ b h9).1.2.2.2; omega
                    · have := HI.out.coh.lt; omega
end Go.Proofs.Ybulkboha
