import Derived.Test.YbulkbohaAbort
namespace Go.Proofs.Ybulkboha
open Go.RowKit
set_option linter.unusedVariables false

/-- the cohort of e, its Txn and its row of cohorts, as they lie in memory. -/
structure Memb (w : World) (sb : Nat) (e : Ent) (ph lk : Int) (lw : Bool) (ls lo : Value) : Prop where
  coh : w.heap[e.c]? = some (.cells (cohArr sb (e.c - 1) ph lk lw .nilFunc ls e.lend lo) 83 (0, 0))
  txn : w.heap[e.c - 1]? = some (.cells (txnArr e.p.1 e.p.2.1 e.p.2.2 (e.c - 2)) 102 (0, 0))
  cohs : w.heap[e.c - 2]? = some (.cells cohsArr 99 (0, 0))
  low : 3 ≤ e.c

theorem Memb.chg {S : Nat → Prop} {w w' : World} {sb : Nat} {e : Ent} {ph lk : Int} {lw : Bool} {ls lo : Value} (h : Memb w sb e ph lk lw ls lo) (k : Chg S w w') (h0 : ¬ S e.c) (h1 : ¬ S (e.c - 1)) (h2 : ¬ S (e.c - 2)) : Memb w' sb e ph lk lw ls lo :=
  ⟨k.heap h.coh h0, k.heap h.txn h1, k.heap h.cohs h2, h.low⟩
theorem Memb.below {w w' : World} {sb : Nat} {e : Ent} {ph lk : Int} {lw : Bool} {ls lo : Value} (h : Memb w sb e ph lk lw ls lo) (k : Below w.heap.size w w') : Memb w' sb e ph lk lw ls lo :=
  h.chg (Chg.of_below (S := fun _ => False) k) (fun h => h) (fun h => h) (fun h => h)
theorem Memb.lies {w : World} {sb : Nat} {e : Ent} {ph : Int} {lo : Value} (h : Memb w sb e ph 0 false (.slice none 0 0) lo) : Lies w sb e.c (e.c - 1) (e.c - 2) ph e.lend lo :=
  ⟨h.coh, ⟨_, _, _, h.txn⟩, h.cohs⟩
theorem Memb.isC {w : World} {sb : Nat} {e : Ent} {ph lk : Int} {lw : Bool} {ls lo : Value} (h : Memb w sb e ph lk lw ls lo) : IsC w e.c := ⟨_, _, h.coh⟩
theorem Memb.cell {w : World} {sb : Nat} {e : Ent} {ph lk : Int} {lw : Bool} {ls lo : Value} (h : Memb w sb e ph lk lw ls lo) (o : Nat) : w.cell? ⟨e.c, o, none⟩ = (cohArr sb (e.c - 1) ph lk lw .nilFunc ls e.lend lo)[o]? := cell_of_row _ _ _ _ _ _ h.coh
theorem Memb.free {w : World} {sb : Nat} {e : Ent} {ph lk : Int} {lw : Bool} {ls lo : Value} (h : Memb w sb e ph lk lw ls lo) (o : Nat) : w.frozen? ⟨e.c, o, none⟩ = false := frozen_of_row w e.c o _ 83 h.coh
theorem Memb.toCoh {w : World} {sb : Nat} {e : Ent} {lk : Int} {lw : Bool} {ls lo : Value} (h : Memb w sb e e.ph lk lw ls lo) : Coh w e := by
  refine ⟨⟨e.c - 1, ?_, ?_, ?_, ?_⟩, ?_, ?_, ?_⟩
  · rw [h.cell]; rfl
  · rw [cell_of_row _ _ _ _ _ _ h.txn]; rfl
  · rw [cell_of_row _ _ _ _ _ _ h.txn]; rfl
  · rw [cell_of_row _ _ _ _ _ _ h.txn]; rfl
  · rw [h.cell]; rfl
  · rw [h.cell]; rfl
  · rw [h.cell]; rfl
theorem Memb.lt {w : World} {sb : Nat} {e : Ent} {ph lk : Int} {lw : Bool} {ls lo : Value} (h : Memb w sb e ph lk lw ls lo) : e.c < w.heap.size := (Array.getElem?_eq_some_iff.1 h.coh).1

/-- what a victim's phase becomes. -/
def deadPh (ph : Int) : Int := if ph = 2 then 3 else 11
/-- how many of them tell their master. -/
def told (ys : List Ent) : Nat := (ys.filter (fun y => y.ph != 2)).length
theorem told_le (ys : List Ent) : told ys ≤ ys.length := List.length_filter_le _ _
theorem told_append (xs ys : List Ent) : told (xs ++ ys) = told xs + told ys := by simp [told]
theorem told_take {ys : List Ent} {k : Nat} {e : Ent} (h : ys[k]? = some e) : told (ys.take (k + 1)) = told (ys.take k) + (if e.ph = 2 then 0 else 1) := by
  rw [List.take_add_one, h, told_append]
  congr 1
  by_cases hp : e.ph = 2 <;> simp [told, hp]

def Far (ys : List Ent) : Prop := ys.Pairwise (fun a b => a.c + 2 < b.c)
theorem Far.ne {ys : List Ent} (h : Far ys) {i j : Nat} {a b : Ent} (hij : i < j) (ha : ys[i]? = some a) (hb : ys[j]? = some b) : a.c + 2 < b.c := by
  obtain ⟨hi, rfl⟩ := List.getElem?_eq_some_iff.1 ha
  obtain ⟨hj, rfl⟩ := List.getElem?_eq_some_iff.1 hb
  exact (List.pairwise_iff_getElem.1 h) i j hi hj hij
theorem Far.apart {ys : List Ent} (h : Far ys) {i j : Nat} {a b : Ent} (hij : i ≠ j) (ha : ys[i]? = some a) (hb : ys[j]? = some b) : a.c + 2 < b.c ∨ b.c + 2 < a.c := by
  rcases Nat.lt_or_gt_of_ne hij with h1 | h1
  · exact .inl (h.ne h1 ha hb)
  · exact .inr (h.ne h1 hb ha)

abbrev nilV : Value := .slice none 0 0
/-- what abortAll has done with the first k. -/
structure Ab (sb hb mb : Nat) (fr ct : Value) (cf ac la bo se en ot : Int) (ys : List Ent) (w : World) (k : Nat) (wr : World) : Prop where
  chg : Chg (fun b => b = hb ∨ ∃ y ∈ ys, b = y.c) w wr
  site : Site wr sb hb mb fr cf ct ac la bo (se + told (ys.take k)) (en + told (ys.take k)) ot
  done : ∀ j y, j < k → ys[j]? = some y → Memb wr sb y (deadPh y.ph) 0 false nilV nilV
  todo : ∀ j y, k ≤ j → ys[j]? = some y → Memb wr sb y y.ph 0 false nilV nilV

theorem Ab.step {sb hb mb : Nat} {fr ct : Value} {cf ac la bo se en ot : Int} {ys : List Ent} {w wr w' : World} {k : Nat} {e : Ent} (D : Ab sb hb mb fr ct cf ac la bo se en ot ys w k wr) (he : ys[k]? = some e) (hf : Far ys) (hlow : ∀ y ∈ ys, hb + 2 < y.c ∧ sb + 2 < y.c)
    (c : Chg (fun b => b = e.c ∨ b = hb) wr w') (L : Lies w' sb e.c (e.c - 1) (e.c - 2) (deadPh e.ph) e.lend nilV)
    (S : Site w' sb hb mb fr cf ct ac la bo (se + told (ys.take (k + 1))) (en + told (ys.take (k + 1))) ot) : Ab sb hb mb fr ct cf ac la bo se en ot ys w (k + 1) w' := by
  have hm := List.mem_of_getElem? he
  have hE := D.todo k e (Nat.le_refl _) he
  have ke : ∀ j y ph, j ≠ k → ys[j]? = some y → Memb wr sb y ph 0 false nilV nilV → Memb w' sb y ph 0 false nilV nilV := by
    intro j y ph hj hy M
    have hy' := hlow y (List.mem_of_getElem? hy)
    have := hf.apart hj hy he
    have := M.low
    have := hE.low
    exact M.chg c (by omega) (by omega) (by omega)
  refine ⟨D.chg.trans (c.mono (fun b _ h => ?_)), S, ?_, ?_⟩
  · rcases h with rfl | rfl
    · exact .inr ⟨e, hm, rfl⟩
    · exact .inl rfl
  · intro j y hj hy
    by_cases hjk : j = k
    · subst hjk
      rw [he] at hy
      cases hy
      have := hlow e hm
      have := hE.low
      exact ⟨L.coh, c.heap hE.txn (by omega), L.cohs, hE.low⟩
    · exact ke j y _ hjk hy (D.done j y (by omega) hy)
  · intro j y hj hy
    exact ke j y _ (by omega) hy (D.todo j y (by omega) hy)

set_option maxRecDepth 100000 in
set_option maxHeartbeats 1000000 in
theorem abortAll_is (yv : Value) (ys : List Ent) (sb hb mb : Nat) (fr ct : Value) (cf ac la bo se en ot : Int) (w : World) (hy : Cohs w yv ys) (hM : ∀ y ∈ ys, Memb w sb y y.ph 0 false nilV nilV) (S : Site w sb hb mb fr cf ct ac la bo se en ot)
    (hab : ∀ y ∈ ys, abortP y.ph = true) (hf : Far ys) (hlow : ∀ y ∈ ys, hb + 2 < y.c ∧ sb + 2 < y.c) (hv : ∀ b, InV yv b → b ≠ hb ∧ ∀ y ∈ ys, b ≠ y.c) (hlen : ys.length ≤ 2048) (h1 : 0 ≤ se) (h2 : se < 10) (h3 : 0 ≤ en) (h4 : en < 10) :
    Calls Yba.prog 34 #[yv] w fun e w' => e = .returned (.tuple #[]) ∧ Ab sb hb mb fr ct cf ac la bo se en ot ys w ys.length w' := by
  obtain ⟨ao, cap, hvE⟩ := hy.len
  have HX : Hid (Cohs w yv ys) := hy
  have HA : Hid (∀ y ∈ ys, abortP y.ph = true) := hab
  have HF : Hid (Far ys) := hf
  have HW : Hid (∀ y ∈ ys, hb + 2 < y.c ∧ sb + 2 < y.c) := hlow
  have HV : Hid (∀ b, InV yv b → b ≠ hb ∧ ∀ y ∈ ys, b ≠ y.c) := hv
  have H0 : Hid (Ab sb hb mb fr ct cf ac la bo se en ot ys w 0 w) := ⟨Chg.refl _ _, by simpa [told] using S, fun j y hj => by omega, fun j y _ hy => hM y (List.mem_of_getElem? hy)⟩
  clear hy hab hf hlow hv hM S
  subst hvE
  generalize hgn : ys.length = n at *
  have HN : Hid (ys.length = n) := hgn
  go_enter Yba.func34, Yba.ntmps34
  go_wp2
  go_loopw [6] (fun i wr => ∃ k : Nat, k ≤ n ∧ i = .int .i64 k ∧ Ab sb hb mb fr ct cf ac la bo se en ot ys w k wr) (fun i _ => n - (intOf i).toNat)
  case atStart => exact ⟨0, by omega, rfl, H0.out⟩
  case round =>
    obtain ⟨k, hk, rfl, D⟩ := hrel
    by_cases hlt : k < n
    · obtain ⟨e, he⟩ : ∃ e, ys[k]? = some e := ⟨_, List.getElem?_eq_getElem (by have := HN.out; omega)⟩
      have hx2 : Cohs wr (.slice ao n cap) ys := Own.chg HX.out D.chg (fun b hb' hS => by
        have := HV.out b hb'
        rcases hS with h | ⟨y, hy, h⟩
        · exact this.1 h
        · exact this.2 y hy h)
      obtain ⟨b, cap', hE, r0⟩ := hx2.cells he
      have hao : ao = some ⟨b, 0, none⟩ := by cases hE; rfl
      have hm := List.mem_of_getElem? he
      have hW := HW.out e hm
      have hE' := D.todo k e (Nat.le_refl _) he
      have hlow := hE'.low
      have ht := told_take he
      have htl : told (ys.take k) ≤ n := Nat.le_trans (told_le _) (by rw [List.length_take]; omega)
      have hae := HA.out e hm
      have HH : Hid (∀ w', Chg (fun b => b = e.c ∨ b = hb) wr w' → Lies w' sb e.c (e.c - 1) (e.c - 2) (deadPh e.ph) e.lend nilV → Site w' sb hb mb fr cf ct ac la bo (se + told (ys.take (k + 1))) (en + told (ys.take (k + 1))) ot → Ab sb hb mb fr ct cf ac la bo se en ot ys w (k + 1) w') :=
        fun w' c L S => D.step he HF.out HW.out c L S
      have HL : Hid (Lies wr sb e.c (e.c - 1) (e.c - 2) e.ph e.lend nilV) := hE'.lies
      have HS : Hid (Site wr sb hb mb fr cf ct ac la bo (se + told (ys.take k)) (en + told (ys.take k)) ot) := D.site
      clear hx2 hE D he hE'
      subst hao
      by_cases hp : e.ph = 2
      · have HT : Hid (Calls Yba.prog 43 #[.pointer (some ⟨e.c, 0, none⟩)] wr fun r w' => r = .returned (.tuple #[]) ∧ Ab sb hb mb fr ct cf ac la bo se en ot ys w (k + 1) w') := by
          have L := HL.out
          rw [hp] at L
          refine (abort_wait sb e.c (e.c - 1) (e.c - 2) hb mb fr ct nilV cf ac la bo _ _ ot e.lend wr L HS.out (by omega) (by omega) (by omega) (by omega)).mono ?_
          rintro r w' ⟨rfl, c, L', S'⟩
          refine ⟨rfl, HH.out w' (c.mono (fun _ _ h => .inl h)) ?_ ?_⟩
          · simpa [deadPh, hp] using L'
          · rw [ht, if_pos hp]; exact S'
        clear HL HS HH ht
        go_wp2_with fail
        with_reducible refine HT.out.mono ?_
        rintro r w2 ⟨rfl, D2⟩
        go_wp2
        go_roundw
        case rel => exact ⟨k + 1, by omega, by go_num, D2⟩
        case measure => simp [intOf]; omega
      · have HT : Hid (Calls Yba.prog 43 #[.pointer (some ⟨e.c, 0, none⟩)] wr fun r w' => r = .returned (.tuple #[]) ∧ Ab sb hb mb fr ct cf ac la bo se en ot ys w (k + 1) w') := by
          refine (abort_work sb e.c (e.c - 1) (e.c - 2) hb mb fr ct nilV e.ph cf ac la bo _ _ ot e.lend wr HL.out HS.out (by omega) (by omega) (by omega) (by omega) (by omega) (by omega) hae hp (by omega) (by omega) (by omega) (by omega)).mono ?_
          rintro r w' ⟨rfl, c, L', S'⟩
          refine ⟨rfl, HH.out w' c ?_ ?_⟩
          · simpa [deadPh, hp] using L'
          · rw [ht, if_neg hp]
            have e1 : ∀ z : Int, z + ((told (ys.take k) + 1 : Nat) : Int) = z + (told (ys.take k) : Int) + 1 := by intro z; omega
            rw [e1, e1]; exact S'
        clear HL HS HH ht
        go_wp2_with fail
        with_reducible refine HT.out.mono ?_
        rintro r w2 ⟨rfl, D2⟩
        go_wp2
        go_roundw
        case rel => exact ⟨k + 1, by omega, by go_num, D2⟩
        case measure => simp [intOf]; omega
    · have hkn : k = n := by omega
      subst hkn
      go_wp2
      go_end0
      exact ⟨rfl, D⟩
end Go.Proofs.Ybulkboha
