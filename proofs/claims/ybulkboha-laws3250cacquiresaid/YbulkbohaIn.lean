import Derived.Test.YbulkbohaTakers
import Derived.LaidEqlPtr
namespace Go.Proofs.Ybulkboha
open Go.RowKit
set_option linter.unusedVariables false

/-- block b is a row of cells. -/
def IsC (w : World) (b : Nat) : Prop := ∃ ca ta, w.heap[b]? = some (.cells ca ta (0, 0))
theorem IsC.chg {S : Nat → Prop} {w w' : World} {b : Nat} (h : IsC w b) (c : Chg S w w') (hn : ¬ S b) : IsC w' b := by
  obtain ⟨ca, ta, h⟩ := h
  exact ⟨ca, ta, c.heap h hn⟩
theorem IsC.below {w w' : World} {b : Nat} (h : IsC w b) (c : Below w.heap.size w w') : IsC w' b := h.chg (Chg.of_below (S := fun _ => False) c) (fun h => h)
theorem Yba.info83 : (Yba.prog.info? 83).map (fun i => i.size) = some 14 := by kernel_rfl
theorem eql_ptr {w : World} {a b : Nat} (ha : IsC w a) (hb : IsC w b) : (binOp .eql 74 (.pointer (some ⟨a, 0, none⟩)) (.pointer (some ⟨b, 0, none⟩))).run Yba.prog w = .ok (.bool (a == b)) w := by
  obtain ⟨j, hj, hs⟩ := Option.map_eq_some_iff.1 Yba.info83
  by_cases h : a = b
  · subst h
    rw [run_eql_ptr_same w _ Yba.underlying74 hj]
    simp
  · obtain ⟨ca, ta, ha⟩ := ha
    obtain ⟨cb, tb, hb⟩ := hb
    rw [run_eql_ptr_other w Yba.underlying74 hj (by omega) (by simp) ha hb]
    simp [h]
theorem equalIn_ptr {w : World} {a b d : Nat} (ha : IsC w a) (hb : IsC w b) : (Op.equalIn (d + 1) 74 (.pointer (some ⟨a, 0, none⟩)) (.pointer (some ⟨b, 0, none⟩))).run Yba.prog w = .ok (a == b) w := by
  obtain ⟨j, hj, hs⟩ := Option.map_eq_some_iff.1 Yba.info83
  by_cases h : a = b
  · subst h
    simp [Op.equalIn, run_underlying Yba.underlying74, sizeOf, typeInfo, hj, run_sameAddr_same]
  · obtain ⟨ca, ta, ha⟩ := ha
    obtain ⟨cb, tb, hb⟩ := hb
    simp [Op.equalIn, run_underlying Yba.underlying74, sizeOf, typeInfo, hj, show j.size ≠ 0 by omega, run_sameAddr_other w (a := ⟨a, 0, none⟩) (b := ⟨b, 0, none⟩) (by simp) ha hb, h]

def has (ys : List Ent) (c : Nat) : Bool := ys.any (fun y => y.c == c)
theorem has_drop {ys : List Ent} {k c : Nat} {e : Ent} (h : ys[k]? = some e) : has (ys.drop k) c = (e.c == c || has (ys.drop (k + 1)) c) := by
  unfold has
  rw [List.drop_eq_getElem_cons (List.getElem?_eq_some_iff.1 h).1, List.any_cons, (List.getElem?_eq_some_iff.1 h).2]

set_option maxRecDepth 100000 in
set_option maxHeartbeats 1000000 in
theorem in_is (yv : Value) (ys : List Ent) (c : Nat) (w : World) (hy : Cohs w yv ys) (hall : ∀ y ∈ ys, IsC w y.c) (hc : IsC w c) (hlen : ys.length ≤ 4096) :
    Calls Yba.prog 22 #[yv, .pointer (some ⟨c, 0, none⟩)] w fun e w' => e = .returned (.bool (has ys c)) ∧ w' = w := by
  obtain ⟨ao, cap, hvE⟩ := hy.len
  have HX : Hid (Cohs w yv ys) := hy
  have HA : Hid (∀ y ∈ ys, IsC w y.c) := hall
  have HC : Hid (IsC w c) := hc
  clear hy hall hc
  subst hvE
  generalize hgn : ys.length = n at *
  have HN : Hid (ys.length = n) := hgn
  go_enter Yba.func22, Yba.ntmps22
  go_wp2
  go_loop [9] (fun i => ∃ k : Nat, k ≤ n ∧ i = .int .i64 k ∧ has (ys.drop k) c = has ys c) (fun i => n - (intOf i).toNat)
  case atStart => exact ⟨0, by omega, rfl, rfl⟩
  case round =>
    obtain ⟨k, hk, rfl, hh⟩ := hrel
    by_cases hlt : k < n
    · obtain ⟨e, he⟩ : ∃ e, ys[k]? = some e := ⟨_, List.getElem?_eq_getElem (by have := HN.out; omega)⟩
      obtain ⟨b, cap', hE, r0⟩ := HX.out.cells he
      have hao : ao = some ⟨b, 0, none⟩ := by cases hE; rfl
      have HH : Hid ((e.c == c || has (ys.drop (k + 1)) c) = has ys c) := by show _ = _; rw [← has_drop he]; exact hh
      have hq := eql_ptr (HA.out e (List.mem_of_getElem? he)) HC.out
      clear hE hh he
      subst hao
      by_cases hec : e.c = c
      · have HR : Hid (has ys c = true) := by show _ = _; rw [← HH.out, hec]; simp
        rw [show (e.c == c) = true by simpa using hec] at hq
        clear hec
        go_wp2
        go_ret
        exact ⟨ret_bool HR.out.symm, rfl⟩
      · have HR : Hid (has (ys.drop (k + 1)) c = has ys c) := by show _ = _; rw [← HH.out]; simp [hec]
        rw [show (e.c == c) = false by simpa using hec] at hq
        go_wp2
        go_round
        case rel => exact ⟨k + 1, by omega, by go_num, HR.out⟩
        case measure => simp [intOf]; omega
    · have HR : Hid (has ys c = false) := by show _ = _; rw [← hh, List.drop_of_length_le (by have := HN.out; omega)]; rfl
      go_wp2
      go_ret
      exact ⟨ret_bool HR.out.symm, rfl⟩

set_option maxRecDepth 100000 in
set_option maxHeartbeats 1000000 in
/-- slices.Index: at least 0 just where c is there. -/
theorem index_is (yv : Value) (ys : List Ent) (c : Nat) (w : World) (hy : Cohs w yv ys) (hall : ∀ y ∈ ys, IsC w y.c) (hc : IsC w c) (hlen : ys.length ≤ 4096) :
    Calls Yba.prog 46 #[yv, .pointer (some ⟨c, 0, none⟩)] w fun e w' => ∃ i : Int, e = .returned (.int .i64 i) ∧ decide (0 ≤ i) = has ys c ∧ w' = w := by
  obtain ⟨ao, cap, hvE⟩ := hy.len
  have HX : Hid (Cohs w yv ys) := hy
  have HA : Hid (∀ y ∈ ys, IsC w y.c) := hall
  have HC : Hid (IsC w c) := hc
  clear hy hall hc
  subst hvE
  generalize hgn : ys.length = n at *
  have HN : Hid (ys.length = n) := hgn
  go_enter Yba.func46, Yba.ntmps46
  go_wp2
  go_loop [8] (fun i => ∃ k : Nat, k ≤ n ∧ i = .int .i64 k ∧ has (ys.drop k) c = has ys c) (fun i => n - (intOf i).toNat)
  case atStart => exact ⟨0, by omega, rfl, rfl⟩
  case round =>
    obtain ⟨k, hk, rfl, hh⟩ := hrel
    by_cases hlt : k < n
    · obtain ⟨e, he⟩ : ∃ e, ys[k]? = some e := ⟨_, List.getElem?_eq_getElem (by have := HN.out; omega)⟩
      obtain ⟨b, cap', hE, r0⟩ := HX.out.cells he
      have hao : ao = some ⟨b, 0, none⟩ := by cases hE; rfl
      have HH : Hid ((e.c == c || has (ys.drop (k + 1)) c) = has ys c) := by show _ = _; rw [← has_drop he]; exact hh
      have hq := eql_ptr HC.out (HA.out e (List.mem_of_getElem? he))
      clear hE hh he
      subst hao
      by_cases hec : c = e.c
      · have HR : Hid (has ys c = true) := by show _ = _; rw [← HH.out, hec]; simp
        rw [show (c == e.c) = true by simpa using hec] at hq
        clear hec
        go_wp2
        go_ret
        exact ⟨_, rfl, by rw [HR.out]; exact decide_eq_true (by omega), rfl⟩
      · have HR : Hid (has (ys.drop (k + 1)) c = has ys c) := by show _ = _; rw [← HH.out, show (e.c == c) = false by simpa using fun h => hec h.symm]; simp
        rw [show (c == e.c) = false by simpa using hec] at hq
        go_wp2
        go_round
        case rel => exact ⟨k + 1, by omega, by go_num, HR.out⟩
        case measure => simp [intOf]; omega
    · have HR : Hid (has ys c = false) := by show _ = _; rw [← hh, List.drop_of_length_le (by have := HN.out; omega)]; rfl
      go_wp2
      go_ret
      exact ⟨_, rfl, by rw [HR.out]; rfl, rfl⟩

theorem contains_is (yv : Value) (ys : List Ent) (c : Nat) (w : World) (hy : Cohs w yv ys) (hall : ∀ y ∈ ys, IsC w y.c) (hc : IsC w c) (hlen : ys.length ≤ 4096) :
    Calls Yba.prog 41 #[yv, .pointer (some ⟨c, 0, none⟩)] w fun e w' => e = .returned (.bool (has ys c)) ∧ w' = w := by
  have H := index_is yv ys c w hy hall hc hlen
  have HI : Hid (Calls Yba.prog 46 #[yv, .pointer (some ⟨c, 0, none⟩)] w fun e w' => ∃ i : Int, e = .returned (.int .i64 i) ∧ decide (0 ≤ i) = has ys c ∧ w' = w) := H
  clear H hy hall hc
  go_enter Yba.func41, Yba.ntmps41
  go_wp2_with fail
  with_reducible refine HI.out.mono ?_
  rintro e w' ⟨i, rfl, hi, rfl⟩
  have HR : Hid (decide (0 ≤ i) = has ys c) := hi
  clear hi
  go_wp2
  go_ret
  exact ⟨ret_bool HR.out, rfl⟩

/-- the closure of grant: is h's owner among the victims? -/
theorem grant1_is (yv : Value) (ys : List Ent) (vb c : Nat) (m : Int) (w : World) (hv : w.cell? ⟨vb, 0, none⟩ = some yv) (hy : Cohs w yv ys) (hall : ∀ y ∈ ys, IsC w y.c) (hc : IsC w c) (hlen : ys.length ≤ 4096) :
    Calls Yba.prog 40 #[.agg #[.pointer (some ⟨c, 0, none⟩), .int .u8 m], .pointer (some ⟨vb, 0, none⟩)] w fun e w' => e = .returned (.bool (has ys c)) ∧ Below w.heap.size w w' := by
  have hb : ∀ A, Below w.heap.size w (w.alloc A) := fun A => (Below.refl _ _).alloc (Nat.le_refl _) _
  have HI : Hid (∀ A, Calls Yba.prog 41 #[yv, .pointer (some ⟨c, 0, none⟩)] (w.alloc A) fun e w' => e = .returned (.bool (has ys c)) ∧ w' = w.alloc A) := fun A =>
    contains_is yv ys c (w.alloc A) (Own.chg hy (Chg.of_below (S := fun _ => False) (hb A)) (fun _ _ h => h)) (fun y hy' => (hall y hy').below (hb A)) (hc.below (hb A)) hlen
  have hvl : vb < w.heap.size := block_lt_of_cell hv
  have hone : yv.oneCell' = true := by obtain ⟨ao, cap, rfl⟩ := hy.len; rfl
  obtain ⟨ao, cap, hvE⟩ := hy.len
  clear hy hall hc hone
  subst hvE
  go_enter Yba.func40, Yba.ntmps40
  go_wp2_with fail
  with_reducible refine (HI.out _).mono ?_
  rintro e w' ⟨rfl, rfl⟩
  go_wp2
  go_ret
  exact ⟨rfl, hb _⟩
end Go.Proofs.Ybulkboha
