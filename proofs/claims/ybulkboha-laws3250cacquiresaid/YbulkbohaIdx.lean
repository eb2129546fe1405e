import Derived.Test.YbulkbohaIn
import Derived.BigQuiet
namespace Go.Proofs.Ybulkboha
open Go.RowKit
set_option linter.unusedVariables false

theorem ret_intv {k : IntKind} {a b : Int} (h : a = b) : Ending.returned (.int k a) = .returned (.int k b) := by rw [h]
/-- the first place at which p holds, from k on; -1: nowhere. -/
def firstAt (p : Ent → Bool) : List Ent → Nat → Int
  | [], _ => -1
  | x :: xs, k => if p x then (k : Int) else firstAt p xs (k + 1)
theorem firstAt_nonneg (p : Ent → Bool) (xs : List Ent) (k : Nat) : decide (0 ≤ firstAt p xs k) = xs.any p := by
  induction xs generalizing k with
  | nil => rfl
  | cons x xs ih =>
    rw [firstAt, List.any_cons]
    by_cases h : p x = true
    · rw [if_pos h, h]; simp
    · rw [if_neg h, ih]; simp [h]

set_option maxRecDepth 100000 in
set_option maxHeartbeats 1000000 in
/-- slices.IndexFunc with the method value r.conflicts. -/
theorem indexFunc_conf (r : Nat) (m : Int) (hv : Value) (xs : List Ent) (w : World) (hx : Reqs w hv xs) (hlen : xs.length ≤ 4096) :
    Calls Yba.prog 36 #[hv, .func (.func 29) #[.agg #[.pointer (some ⟨r, 0, none⟩), .int .u8 m]] #[]] w fun e w' => e = .returned (.int .i64 (firstAt (fun x => m == 2 || x.m == 2) xs 0)) ∧ Below w.heap.size w w' := by
  obtain ⟨ao, cap, hvE⟩ := hx.len
  have HX : Hid (Reqs w hv xs) := hx
  clear hx
  subst hvE
  generalize hgn : xs.length = n at *
  have HN : Hid (xs.length = n) := hgn
  go_enter Yba.func36, Yba.ntmps36
  go_wp2
  go_loopw [8] (fun i wr => ∃ k : Nat, k ≤ n ∧ i = .int .i64 k ∧ firstAt (fun x => m == 2 || x.m == 2) (xs.drop k) k = firstAt (fun x => m == 2 || x.m == 2) xs 0 ∧ Below w.heap.size w wr) (fun i _ => n - (intOf i).toNat)
  case atStart => exact ⟨0, by omega, rfl, rfl, Below.refl _ _⟩
  case round =>
    obtain ⟨k, hk, rfl, hh, hB⟩ := hrel
    by_cases hlt : k < n
    · obtain ⟨e, he⟩ : ∃ e, xs[k]? = some e := ⟨_, List.getElem?_eq_getElem (by have := HN.out; omega)⟩
      have hx2 : Reqs wr (.slice ao n cap) xs := Own.chg HX.out (Chg.of_below (S := fun _ => False) hB) (fun _ _ h => h)
      obtain ⟨b, cap', hE, r0, r1⟩ := hx2.cells he
      have hao : ao = some ⟨b, 0, none⟩ := by cases hE; rfl
      have hd : xs.drop k = e :: xs.drop (k + 1) := by rw [List.drop_eq_getElem_cons (by have := HN.out; omega)]; rw [(List.getElem?_eq_some_iff.1 he).2]
      rw [hd, firstAt] at hh
      have HH : Hid ((if (m == 2 || e.m == 2) = true then (k : Int) else firstAt (fun x => m == 2 || x.m == 2) (xs.drop (k + 1)) (k + 1)) = firstAt (fun x => m == 2 || x.m == 2) xs 0) := hh
      have HB : Hid (Below w.heap.size w wr) := hB
      clear hx2 hE hh hd hB he
      subst hao
      go_wp2_with fail
      with_reducible refine (conflicts_is _ _ _ _ _ rfl rfl).mono ?_
      rintro e1 w2 ⟨rfl, hb2⟩
      by_cases hc : (m == 2 || e.m == 2) = true
      · have HR : Hid (firstAt (fun x => m == 2 || x.m == 2) xs 0 = (k : Int)) := by show _ = _; rw [← HH.out, if_pos hc]
        go_wp2
        go_ret
        exact ⟨ret_intv HR.out.symm, HB.out.next hb2⟩
      · have HR : Hid (firstAt (fun x => m == 2 || x.m == 2) (xs.drop (k + 1)) (k + 1) = firstAt (fun x => m == 2 || x.m == 2) xs 0) := by show _ = _; rw [← HH.out, if_neg hc]
        have hc' : (m == 2 || e.m == 2) = false := by simpa using hc
        clear hc
        go_wp2
        go_roundw
        case rel => exact ⟨k + 1, by omega, by go_num, HR.out, HB.out.next hb2⟩
        case measure => simp [intOf]; omega
    · have HR : Hid (firstAt (fun x => m == 2 || x.m == 2) xs 0 = -1) := by show _ = _; rw [← hh, List.drop_of_length_le (by have := HN.out; omega)]; rfl
      go_wp2
      go_ret
      exact ⟨ret_intv HR.out.symm, hB⟩
set_option maxRecDepth 100000 in
set_option maxHeartbeats 1000000 in
/-- slices.IndexFunc with grant's closure. -/
theorem indexFunc_vict (yv : Value) (ys : List Ent) (vb : Nat) (hv : Value) (xs : List Ent) (w : World) (hcell : w.cell? ⟨vb, 0, none⟩ = some yv) (hys : Cohs w yv ys) (hyall : ∀ y ∈ ys, IsC w y.c) (hyl : ys.length ≤ 4096) (hxall : ∀ x ∈ xs, IsC w x.c) (hx : Reqs w hv xs) (hlen : xs.length ≤ 4096) :
    Calls Yba.prog 36 #[hv, .func (.func 40) #[] #[.pointer (some ⟨vb, 0, none⟩)]] w fun e w' => e = .returned (.int .i64 (firstAt (fun x => has ys x.c) xs 0)) ∧ Below w.heap.size w w' := by
  obtain ⟨ao, cap, hvE⟩ := hx.len
  have HX : Hid (Reqs w hv xs) := hx
  have HY : Hid (∀ W, Below w.heap.size w W → ∀ e ∈ xs, Calls Yba.prog 40 #[.agg #[.pointer (some ⟨e.c, 0, none⟩), .int .u8 e.m], .pointer (some ⟨vb, 0, none⟩)] W fun r w' => r = .returned (.bool (has ys e.c)) ∧ Below W.heap.size W w') := fun W hB e he =>
    grant1_is yv ys vb e.c e.m W (hB.keep hcell) (Own.chg hys (Chg.of_below (S := fun _ => False) hB) (fun _ _ h => h)) (fun y hy => (hyall y hy).below hB) ((hxall e he).below hB) hyl
  clear hx hcell hys hyall hxall
  subst hvE
  generalize hgn : xs.length = n at *
  have HN : Hid (xs.length = n) := hgn
  go_enter Yba.func36, Yba.ntmps36
  go_wp2
  go_loopw [8] (fun i wr => ∃ k : Nat, k ≤ n ∧ i = .int .i64 k ∧ firstAt (fun x => has ys x.c) (xs.drop k) k = firstAt (fun x => has ys x.c) xs 0 ∧ Below w.heap.size w wr) (fun i _ => n - (intOf i).toNat)
  case atStart => exact ⟨0, by omega, rfl, rfl, Below.refl _ _⟩
  case round =>
    obtain ⟨k, hk, rfl, hh, hB⟩ := hrel
    by_cases hlt : k < n
    · obtain ⟨e, he⟩ : ∃ e, xs[k]? = some e := ⟨_, List.getElem?_eq_getElem (by have := HN.out; omega)⟩
      have hx2 : Reqs wr (.slice ao n cap) xs := Own.chg HX.out (Chg.of_below (S := fun _ => False) hB) (fun _ _ h => h)
      obtain ⟨b, cap', hE, r0, r1⟩ := hx2.cells he
      have hao : ao = some ⟨b, 0, none⟩ := by cases hE; rfl
      have hd : xs.drop k = e :: xs.drop (k + 1) := by rw [List.drop_eq_getElem_cons (by have := HN.out; omega)]; rw [(List.getElem?_eq_some_iff.1 he).2]
      rw [hd, firstAt] at hh
      have HH : Hid ((if has ys e.c = true then (k : Int) else firstAt (fun x => has ys x.c) (xs.drop (k + 1)) (k + 1)) = firstAt (fun x => has ys x.c) xs 0) := hh
      have HB : Hid (Below w.heap.size w wr) := hB
      have HE : Hid (e ∈ xs) := List.mem_of_getElem? he
      clear hx2 hE hh hd hB he
      subst hao
      go_wp2_with fail
      with_reducible refine (HY.out _ HB.out e HE.out).mono ?_
      rintro e1 w2 ⟨rfl, hb2⟩
      by_cases hc : has ys e.c = true
      · have HR : Hid (firstAt (fun x => has ys x.c) xs 0 = (k : Int)) := by show _ = _; rw [← HH.out, if_pos hc]
        go_wp2
        go_ret
        exact ⟨ret_intv HR.out.symm, HB.out.next hb2⟩
      · have HR : Hid (firstAt (fun x => has ys x.c) (xs.drop (k + 1)) (k + 1) = firstAt (fun x => has ys x.c) xs 0) := by show _ = _; rw [← HH.out, if_neg hc]
        have hc' : has ys e.c = false := by simpa using hc
        clear hc
        go_wp2
        go_roundw
        case rel => exact ⟨k + 1, by omega, by go_num, HR.out, HB.out.next hb2⟩
        case measure => simp [intOf]; omega
    · have HR : Hid (firstAt (fun x => has ys x.c) xs 0 = -1) := by show _ = _; rw [← hh, List.drop_of_length_le (by have := HN.out; omega)]; rfl
      go_wp2
      go_ret
      exact ⟨ret_intv HR.out.symm, hB⟩

theorem containsFunc_is (r : Nat) (m : Int) (hv : Value) (xs : List Ent) (w : World) (hx : Reqs w hv xs) (hlen : xs.length ≤ 4096) :
    Calls Yba.prog 28 #[hv, .func (.func 29) #[.agg #[.pointer (some ⟨r, 0, none⟩), .int .u8 m]] #[]] w fun e w' => e = .returned (.bool (xs.any (fun x => m == 2 || x.m == 2))) ∧ Below w.heap.size w w' := by
  have H := indexFunc_conf r m hv xs w hx hlen
  have HI : Hid (Calls Yba.prog 36 #[hv, .func (.func 29) #[.agg #[.pointer (some ⟨r, 0, none⟩), .int .u8 m]] #[]] w fun e w' => e = .returned (.int .i64 (firstAt (fun x => m == 2 || x.m == 2) xs 0)) ∧ Below w.heap.size w w') := H
  have hn := firstAt_nonneg (fun x => m == 2 || x.m == 2) xs 0
  have HF : Hid (decide (0 ≤ firstAt (fun x => m == 2 || x.m == 2) xs 0) = xs.any (fun x => m == 2 || x.m == 2)) := hn
  clear H hx hn
  go_enter Yba.func28, Yba.ntmps28
  go_wp2_with fail
  with_reducible refine HI.out.mono ?_
  rintro e w' ⟨rfl, hb⟩
  generalize firstAt (fun x => m == 2 || x.m == 2) xs 0 = F at *
  go_wp2
  go_ret
  exact ⟨ret_bool HF.out, hb⟩
end Go.Proofs.Ybulkboha
