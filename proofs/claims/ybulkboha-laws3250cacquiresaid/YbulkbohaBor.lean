import Derived.Test.YbulkbohaDel
namespace Go.Proofs.Ybulkboha
open Go.RowKit
set_option linter.unusedVariables false

theorem Memb.setTo {w : World} {sb : Nat} {e : Ent} {ph lk ph' lk' : Int} {lw lw' : Bool} {ls lo ls' lo' : Value} (h : Memb w sb e ph lk lw ls lo) (o : Nat) (v : Value) (he : (cohArr sb (e.c - 1) ph lk lw .nilFunc ls e.lend lo).setIfInBounds o v = cohArr sb (e.c - 1) ph' lk' lw' .nilFunc ls' e.lend lo') :
    Memb (w.setCell ⟨e.c, o, none⟩ v) sb e ph' lk' lw' ls' lo' := by
  have hl := h.low
  refine ⟨?_, (chg_set w e.c o v).heap h.txn (by omega), (chg_set w e.c o v).heap h.cohs (by omega), hl⟩
  rw [heap_setCell_same w e.c o _ 83 v h.coh, he]

theorem Cohs.chg {S : Nat → Prop} {w w' : World} {v : Value} {xs : List Ent} (h : Cohs w v xs) (c : Chg S w w') (hn : ∀ b, InV v b → ¬ S b) : Cohs w' v xs := Own.chg h c hn
theorem Reqs.chg {S : Nat → Prop} {w w' : World} {v : Value} {xs : List Ent} (h : Reqs w v xs) (c : Chg S w w') (hn : ∀ b, InV v b → ¬ S b) : Reqs w' v xs := Own.chg h c hn
theorem Cohs.below {w w' : World} {v : Value} {xs : List Ent} (h : Cohs w v xs) (c : Below w.heap.size w w') : Cohs w' v xs := Own.chg h (Chg.of_below (S := fun _ => False) c) (fun _ _ h => h)
theorem Reqs.below {w w' : World} {v : Value} {xs : List Ent} (h : Reqs w v xs) (c : Below w.heap.size w w') : Reqs w' v xs := Own.chg h (Chg.of_below (S := fun _ => False) c) (fun _ _ h => h)
theorem Cohs.nil (w : World) : Cohs w nilV [] := ⟨rfl, .inl ⟨rfl, rfl⟩⟩
theorem Reqs.nil (w : World) : Reqs w nilV [] := ⟨rfl, .inl ⟨rfl, rfl⟩⟩
theorem not_inNil {b : Nat} : ¬ InV nilV b := fun ⟨n, c, h⟩ => by cases h

theorem own_len {w : World} {k n : Nat} {t : TypeId} {v : Value} {vs : List Value} (h : Own w k t v n vs) : ∃ ao cap, v = .slice ao n cap := by
  rcases h.2 with ⟨rfl, rfl⟩ | ⟨b, cap, rest, rfl, _⟩
  · exact ⟨none, 0, rfl⟩
  · exact ⟨_, _, rfl⟩
/-- what borrow has done with the first k. -/
structure Bo (sb : Nat) (r : Ent) (ys : List Ent) (w : World) (k : Nat) (wr : World) : Prop where
  chg : Chg (fun b => ∃ y ∈ ys, b = y.c) w wr
  done : ∀ j y, j < k → ys[j]? = some y → ∃ lo, Memb wr sb y y.ph 0 false nilV lo ∧ Cohs wr lo [r] ∧ ∀ b, InV lo b → w.heap.size ≤ b
  todo : ∀ j y, k ≤ j → ys[j]? = some y → Memb wr sb y y.ph 0 false nilV nilV

theorem Bo.step {sb : Nat} {r : Ent} {ys : List Ent} {w wr w' : World} {k : Nat} {e : Ent} (D : Bo sb r ys w k wr) (he : ys[k]? = some e) (hf : Far ys) (hin : ∀ y ∈ ys, y.c < w.heap.size)
    (c : Chg (fun b => b = e.c) wr w') {lo : Value} (L : Memb w' sb e e.ph 0 false nilV lo) (hlo : Cohs w' lo [r]) (hnew : ∀ b, InV lo b → w.heap.size ≤ b) : Bo sb r ys w (k + 1) w' := by
  have hm := List.mem_of_getElem? he
  have hE := D.todo k e (Nat.le_refl _) he
  have hel := hin e hm
  have ke : ∀ j y lo, j ≠ k → ys[j]? = some y → Memb wr sb y y.ph 0 false nilV lo → Memb w' sb y y.ph 0 false nilV lo := by
    intro j y lo hj hy M
    have := hf.apart hj hy he
    have := M.low
    have := hE.low
    exact M.chg c (by omega) (by omega) (by omega)
  refine ⟨D.chg.trans (c.mono (fun b _ h => ⟨e, hm, h⟩)), ?_, ?_⟩
  · intro j y hj hy
    by_cases hjk : j = k
    · subst hjk
      rw [he] at hy
      cases hy
      exact ⟨lo, L, hlo, hnew⟩
    · obtain ⟨lo2, M, h1, h2⟩ := D.done j y (by omega) hy
      exact ⟨lo2, ke j y _ hjk hy M, h1.chg c (fun b hb hS => by have := h2 b hb; omega), h2⟩
  · intro j y hj hy
    exact ke j y _ (by omega) hy (D.todo j y (by omega) hy)

theorem cohs_src {w : World} {v : Value} {xs : List Ent} (h : Cohs w v xs) (h0 : 0 < xs.length) : Src Yba.prog 1 81 v xs.length (pc xs) w := by
  rcases h.2 with ⟨_, h1⟩ | ⟨b, cap, rest, rfl, h1, h2, h3⟩
  · omega
  · refine Src.ofSlice w Yba.underlying81 ⟨b, 0, none⟩ _ _ (pc xs) (by rw [pc_length]) ?_ (pc_one xs)
    intro j u hu
    rw [Addr.add_lit, Nat.zero_add, h3.cell, List.getElem?_append_left (List.getElem?_eq_some_iff.1 hu).1, hu]

/-- what borrow leaves. -/
structure Bor (sb : Nat) (r : Ent) (ph : Int) (ys : List Ent) (w w' : World) (lv' : Value) : Prop where
  coh : Memb w' sb r ph 0 false lv' nilV
  lend : Cohs w' lv' ys
  newL : ∀ b, InV lv' b → w.heap.size ≤ b
  loan : ∀ y ∈ ys, ∃ lo, Memb w' sb y y.ph 0 false nilV lo ∧ Cohs w' lo [r] ∧ ∀ b, InV lo b → w.heap.size ≤ b

set_option maxRecDepth 100000 in
set_option maxHeartbeats 1000000 in
theorem borrow_is (yv : Value) (ys : List Ent) (r : Ent) (ph : Int) (sb hb mb : Nat) (fr ct : Value) (cf ac la bo se en ot : Int) (w : World) (hy : Cohs w yv ys) (hM : ∀ y ∈ ys, Memb w sb y y.ph 0 false nilV nilV) (hR : Memb w sb r ph 0 false nilV nilV) (S : Site w sb hb mb fr cf ct ac la bo se en ot)
    (hf : Far ys) (hlow : ∀ y ∈ ys, hb + 2 < y.c ∧ sb + 2 < y.c ∧ y.c + 2 < r.c) (hrl : hb + 2 < r.c ∧ sb + 2 < r.c) (hv : ∀ b, InV yv b → b ≠ hb ∧ b ≠ r.c ∧ ∀ y ∈ ys, b ≠ y.c) (hlen : ys.length ≤ 2048) (h0 : 0 < ys.length) (h1 : 0 ≤ bo) (h2 : bo < 10) :
    Calls Yba.prog 42 #[.pointer (some ⟨r.c, 0, none⟩), yv] w fun e w' => e = .returned (.tuple #[]) ∧ Chg (fun k => k = hb ∨ k = r.c ∨ ∃ y ∈ ys, k = y.c) w w' ∧ Site w' sb hb mb fr cf ct ac la (bo + 1) se en ot ∧ ∃ lv', Bor sb r ph ys w w' lv' := by
  obtain ⟨ao, cap, hvE⟩ := hy.len
  have HX : Hid (Cohs w yv ys) := hy
  have HF : Hid (Far ys) := hf
  have HW : Hid (∀ y ∈ ys, hb + 2 < y.c ∧ sb + 2 < y.c ∧ y.c + 2 < r.c) := hlow
  have HV : Hid (∀ b, InV yv b → b ≠ hb ∧ b ≠ r.c ∧ ∀ y ∈ ys, b ≠ y.c) := hv
  have HI : Hid (∀ y ∈ ys, y.c < w.heap.size) := fun y hy => (hM y hy).lt
  have H0 : Hid (Bo sb r ys w 0 w) := ⟨Chg.refl _ _, fun j y hj => by omega, fun j y _ hy => hM y (List.mem_of_getElem? hy)⟩
  have HR : Hid (Memb w sb r ph 0 false nilV nilV) := hR
  have HS : Hid (Site w sb hb mb fr cf ct ac la bo se en ot) := S
  clear hy hf hlow hv hM S hR
  subst hvE
  generalize hgn : ys.length = n at *
  have HN : Hid (ys.length = n) := hgn
  go_enter Yba.func42, Yba.ntmps42
  go_wp2
  go_loopw [8] (fun i wr => ∃ k : Nat, k ≤ n ∧ i = .int .i64 k ∧ Bo sb r ys w k wr) (fun i _ => n - (intOf i).toNat)
  case atStart => exact ⟨0, by omega, rfl, H0.out⟩
  case round =>
    obtain ⟨k, hk, rfl, D⟩ := hrel
    have hx2 : Cohs wr (.slice ao n cap) ys := HX.out.chg D.chg (fun b hb' ⟨y, hy, h⟩ => (HV.out b hb').2.2 y hy h)
    by_cases hlt : k < n
    · obtain ⟨e, he⟩ : ∃ e, ys[k]? = some e := ⟨_, List.getElem?_eq_getElem (by have := HN.out; omega)⟩
      obtain ⟨b, cap', hE, r0⟩ := hx2.cells he
      have hao : ao = some ⟨b, 0, none⟩ := by cases hE; rfl
      have hm := List.mem_of_getElem? he
      have hE' := D.todo k e (Nat.le_refl _) he
      have c12 : wr.cell? ⟨e.c, 12, none⟩ = some nilV := by rw [hE'.cell]; rfl
      have f12 := hE'.free 12
      have hel := hE'.lt
      have hsz := D.chg.size
      have HD : Hid (Bo sb r ys w k wr) := D
      have HE : Hid (ys[k]? = some e) := he
      clear hx2 hE D he
      subst hao
      have HQ : Hid (∀ A w5, Chg (InV nilV) (wr.alloc A) w5 → w5.cell? ⟨e.c, 12, none⟩ = some nilV ∧ w5.frozen? ⟨e.c, 12, none⟩ = false ∧ Memb w5 sb e e.ph 0 false nilV nilV) := fun A w5 c5 => by
        have M := (hE'.below ((Below.refl _ _).alloc (Nat.le_refl _) A)).chg c5 not_inNil not_inNil not_inNil
        exact ⟨by rw [M.cell]; rfl, M.free 12, M⟩
      clear hE'
      go_wp2_with (refine wpList_app rfl 81 (.tmp 16) (.tmp 18) rfl Yba.underlying81 Yba.info74 rfl (by omega) (v := nilV) (n := 0) (vs := []) (xv := .slice (some ⟨wr.heap.size, 0, none⟩) 1 1) (m := 1) (us := [.pointer (some ⟨r.c, 0, none⟩)]) rfl rfl ⟨rfl, .inl ⟨rfl, rfl⟩⟩ (one_src rfl (by simp)) (.inl (by omega)) (by omega) ?_; intro v' w5 o5 c5 n5 z5; obtain ⟨d12, g12, M5⟩ := HQ.out _ _ c5; obtain ⟨ao', cc', rfl⟩ := own_len o5)
      go_roundw
      case rel =>
        refine ⟨k + 1, by omega, by go_num, ?_⟩
        have hsz5 := c5.size
        have hv5 : ∀ b, InV (.slice ao' (0 + 1) cc') b → wr.heap.size < b := by
          intro b hb'
          rcases n5 with h | ⟨c, h⟩
          · exact absurd (h b hb') not_inNil
          · obtain ⟨n', c', h'⟩ := hb'
            rw [h] at h'
            cases h'
            simp
        have o6 : Cohs w5 (.slice ao' (0 + 1) cc') [r] := o5
        refine HD.out.step HE.out HF.out HI.out ((((Chg.of_below ((Below.refl _ _).alloc (Nat.le_refl _) _)).trans (c5.mono (fun q _ h => absurd h not_inNil))).trans (chg_set w5 e.c 12 (.slice ao' (0 + 1) cc')))) (lo := .slice ao' (0 + 1) cc') (M5.setTo 12 _ rfl) (o6.chg (chg_set w5 e.c 12 _) (fun b hb' h => by have := hv5 b hb'; omega)) (fun b hb' => by have := hv5 b hb'; omega)
      case measure => simp [intOf]; omega
    · obtain rfl : k = n := by omega
      have hRr : Memb wr sb r ph 0 false nilV nilV := by
        have := HR.out.low
        refine HR.out.chg D.chg ?_ ?_ ?_ <;> (rintro ⟨y, hy, h⟩; have := HW.out y hy; omega)
      have hSr : Site wr sb hb mb fr cf ct ac la bo se en ot := HS.out.chg D.chg (by rintro ⟨y, hy, h⟩; have := HW.out y hy; omega) (by rintro ⟨y, hy, h⟩; have := HW.out y hy; omega)
      have c10 : wr.cell? ⟨r.c, 10, none⟩ = some nilV := by rw [hRr.cell]; rfl
      have hSrc : Src Yba.prog 1 81 (.slice ao k cap) k (pc ys) wr := by
        have := cohs_src hx2 (by omega)
        rw [HN.out] at this
        exact this
      have HD : Hid (Bo sb r ys w k wr) := D
      have HX2 : Hid (Cohs wr (.slice ao k cap) ys) := hx2
      have hrlt := hRr.lt
      -- behind the append and the store of the lenders
      have HQ : Hid (∀ v' w5, Own w5 1 74 v' (0 + k) ([] ++ pc ys) → Chg (InV nilV) wr w5 → ((∀ b, InV v' b → InV nilV b) ∨ ∃ c, v' = .slice (some ⟨wr.heap.size, 0, none⟩) (0 + k) c) →
          Chg (· = r.c) wr (w5.setCell ⟨r.c, 10, none⟩ v') ∧ Memb (w5.setCell ⟨r.c, 10, none⟩ v') sb r ph 0 false v' nilV ∧ Cohs (w5.setCell ⟨r.c, 10, none⟩ v') v' ys ∧ (∀ b, InV v' b → w.heap.size ≤ b) ∧ w5.cell? ⟨r.c, 10, none⟩ = some nilV ∧ w5.frozen? ⟨r.c, 10, none⟩ = false) := by
        intro v' w5 o5 c5 n5
        have hv5 : ∀ b, InV v' b → wr.heap.size ≤ b := by
          intro b hb'
          rcases n5 with h | ⟨c, h⟩
          · exact absurd (h b hb') not_inNil
          · obtain ⟨n', c', h'⟩ := hb'
            rw [h] at h'
            cases h'
            exact Nat.le_refl _
        have M5 : Memb w5 sb r ph 0 false nilV nilV := hRr.chg c5 not_inNil not_inNil not_inNil
        have o6 : Cohs w5 v' ys := by
          show Own w5 1 74 v' ys.length (pc ys)
          rw [HN.out]
          simpa using o5
        have hsz := D.chg.size
        exact ⟨(c5.mono (fun q _ h => absurd h not_inNil)).trans (chg_set w5 r.c 10 v'), M5.setTo 10 v' rfl, o6.chg (chg_set w5 r.c 10 v') (fun b hb' h => by have := hv5 b hb'; omega), fun b hb' => by have := hv5 b hb'; omega, by rw [M5.cell]; rfl, M5.free 10⟩
      have HSr : Hid (Site wr sb hb mb fr cf ct ac la bo se en ot) := hSr
      clear hx2 hRr hSr D
      go_upto_region 6 with (refine wpList_app rfl 81 (.tmp 27) (.tmp 28) rfl Yba.underlying81 Yba.info74 rfl (by omega) (v := nilV) (n := 0) (vs := []) (xv := .slice ao k cap) (m := k) (us := pc ys) rfl rfl ⟨rfl, .inl ⟨rfl, rfl⟩⟩ hSrc (.inl (by omega)) (by omega) ?_; intro v' w5 o5 c5 n5 z5; obtain ⟨C6, M6, L6, N6, d10, g10⟩ := HQ.out _ _ o5 c5 n5; obtain ⟨ao', cc', rfl⟩ := own_len o5)
      clear c5 d10 g10 o5 n5 z5 c10 hSrc HQ
      rw [Nat.zero_add] at C6 M6 L6 N6
      generalize w5.setCell ⟨r.c, 10, none⟩ (.slice ao' k cc') = W at *
      generalize (Value.slice ao' k cc') = lv' at *
      have HM : Hid (Memb W sb r ph 0 false lv' nilV) := M6
      have HSW : Hid (Site W sb hb mb fr cf ct ac la bo se en ot) := HSr.out.chg C6 (by omega) (by omega)
      have HC : Hid (Chg (· = r.c) wr W) := C6
      have HL : Hid (Cohs W lv' ys) := L6
      have HNw : Hid (∀ b, InV lv' b → w.heap.size ≤ b) := N6
      have hne := HSW.out.ne
      have c0 : W.cell? ⟨r.c, 0, none⟩ = some (.pointer (some ⟨sb, 0, none⟩)) := by rw [M6.cell]; rfl
      have c1 : W.cell? ⟨r.c, 1, none⟩ = some (.pointer (some ⟨r.c - 1, 0, none⟩)) := by rw [M6.cell]; rfl
      have s0 : W.cell? ⟨sb, 0, none⟩ = some (.iface 46 (.pointer (some ⟨hb, 0, none⟩))) := by rw [cell_of_row _ _ _ _ _ _ HSW.out.site]; rfl
      have HP : Hid (Calls Yba.prog 87 #[.pointer (some ⟨hb, 0, none⟩), .pointer (some ⟨r.c - 1, 0, none⟩)] W.drew fun e w' => e = .returned (.tuple #[]) ∧ w' = W.drew.setCell ⟨hb, 4, none⟩ (.int .i64 (bo + 1))) :=
        borrowed87 hb _ bo W.drew (by show W.cell? _ = _; rw [cell_of_row _ _ _ _ _ _ HSW.out.host]; rfl) (frozen_of_row W hb 4 _ 49 HSW.out.host) h1 (by omega)
      have hrc : r.c ≠ hb := by omega
      have na := na_borrowed
      have ms := m_borrowed
      clear M6 C6 L6 N6
      go_region_held3 (fun w' => w'.cell? ⟨r.c, 0, none⟩ = some (.pointer (some ⟨sb, 0, none⟩)) ∧ w'.cell? ⟨r.c, 1, none⟩ = some (.pointer (some ⟨r.c - 1, 0, none⟩)) ∧ w'.cell? ⟨r.c, 1, none⟩ = some (.pointer (some ⟨r.c - 1, 0, none⟩)) ∧ w'.cell? ⟨sb, 0, none⟩ = some (.iface 46 (.pointer (some ⟨hb, 0, none⟩))))
        (first | exact ⟨c0, c1, c1, s0⟩ | exact keep4c (chg_set _ _ _ _) hrc hrc hrc hne (by assumption))
        ((go_at_call 87; with_reducible refine HP.out.mono ?_; rintro e w1 ⟨rfl, rfl⟩))
      go_wp2
      go_end0
      have hc0 := chg_set W hb 4 (.int .i64 (bo + 1))
      have hcd : Chg (· = hb) W (W.setCell ⟨hb, 4, none⟩ (.int .i64 (bo + 1))).drew := ⟨hc0.os, hc0.tape, hc0.output, hc0.size, hc0.block⟩
      have hbl : hb < w.heap.size := (Array.getElem?_eq_some_iff.1 HS.out.host).1
      have hrl' := HR.out.low
      have hrlt' := HR.out.lt
      refine ⟨rfl, ?_, ⟨hcd.heap HSW.out.site hne, ?_⟩, lv', ?_⟩
      · refine ((HD.out.chg.mono (fun q _ h => .inr (.inr h))).trans (HC.out.mono (fun q _ h => .inr (.inl h)))).trans (hcd.mono (fun q _ h => .inl h))
      · show (W.setCell ⟨hb, 4, none⟩ (.int .i64 (bo + 1))).heap[hb]? = _
        rw [heap_setCell_same W hb 4 _ 49 (.int .i64 (bo + 1)) HSW.out.host]
        rfl
      · refine ⟨HM.out.chg hcd (by omega) (by omega) (by omega), HL.out.chg hcd (fun b hb' h => by have := HNw.out b hb'; omega), HNw.out, ?_⟩
        intro y hy
        obtain ⟨j, hj⟩ := List.getElem?_of_mem hy
        have hjk : j < k := by have := (List.getElem?_eq_some_iff.1 hj).1; have := HN.out; omega
        obtain ⟨lo, My, hlo, hnw⟩ := HD.out.done j y hjk hj
        have hw := HW.out y hy
        have hyl := My.low
        exact ⟨lo, (My.chg HC.out (by omega) (by omega) (by omega)).chg hcd (by omega) (by omega) (by omega), (hlo.chg HC.out (fun b hb' h => by have := hnw b hb'; omega)).chg hcd (fun b hb' h => by have := hnw b hb'; omega), hnw⟩
end Go.Proofs.Ybulkboha
