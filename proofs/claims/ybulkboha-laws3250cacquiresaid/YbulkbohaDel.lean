import Derived.Test.YbulkbohaMemb
namespace Go.Proofs.Ybulkboha
open Go.RowKit
set_option linter.unusedVariables false

theorem firstAt_spec (p : Ent → Bool) : ∀ (xs : List Ent) (k : Nat), (firstAt p xs k = -1 ∧ ∀ x ∈ xs, p x = false) ∨ ∃ i e, firstAt p xs k = ((k + i : Nat) : Int) ∧ xs[i]? = some e ∧ p e = true ∧ ∀ x ∈ xs.take i, p x = false
  | [], k => .inl ⟨rfl, by simp⟩
  | x :: xs, k => by
    by_cases h : p x = true
    · exact .inr ⟨0, x, by simp [firstAt, h], by simp, h, by simp⟩
    · have h' : p x = false := by simpa using h
      rcases firstAt_spec p xs (k + 1) with ⟨h1, h2⟩ | ⟨i, e, h1, h2, h3, h4⟩
      · refine .inl ⟨by simp [firstAt, h', h1], ?_⟩
        intro y hy
        rcases List.mem_cons.1 hy with rfl | hy
        · exact h'
        · exact h2 y hy
      · refine .inr ⟨i + 1, e, ?_, by simpa using h2, h3, ?_⟩
        · simp only [firstAt, h', h1]
          simp only [Bool.false_eq_true, if_false]
          congr 1; omega
        · intro y hy
          rw [List.take_succ_cons] at hy
          rcases List.mem_cons.1 hy with rfl | hy
          · exact h'
          · exact h4 y hy

theorem zero79 (w : World) : (zeroValue 79).run Yba.prog w = .ok (.agg #[.pointer none, .int .u8 0]) w := by kernel_rfl
theorem zc_all (m : Nat) : ∀ v ∈ (Builtin.zeroCells (Value.agg #[.pointer none, .int .u8 0]).cells m).toList, v.oneCell' = true := by
  intro v hv
  unfold Builtin.zeroCells at hv
  simp only [Array.toList_map, List.mem_map] at hv
  obtain ⟨i, _, rfl⟩ := hv
  have h2 : i % (Value.agg #[.pointer none, .int .u8 0]).cells.size = 0 ∨ i % (Value.agg #[.pointer none, .int .u8 0]).cells.size = 1 := by
    have : (Value.agg #[.pointer none, .int .u8 0]).cells.size = 2 := rfl
    rw [this]
    omega
  rcases h2 with h | h <;> rw [h] <;> rfl
theorem run_clear (w : World) (b o n c : Nat) (hn : 0 < n) (hc : ∀ j, j < n * 2 → (w.cell? ⟨b, o + j, none⟩).isSome = true) (hf : ∀ j, j < n * 2 → w.frozen? ⟨b, o + j, none⟩ = false) :
    ∃ Z : List Value, Z.length = n * 2 ∧ ∀ ty, (Builtin.clear_ #[70] ty #[.slice (some ⟨b, o, none⟩) n c]).run Yba.prog w = .ok (.tuple #[]) (w.setCells b o Z) := by
  refine ⟨(Builtin.zeroCells (Value.agg #[.pointer none, .int .u8 0]).cells n).toList, by rw [Array.length_toList, size_zeroCells]; rfl, fun ty => ?_⟩
  have hl : (Builtin.zeroCells (Value.agg #[.pointer none, .int .u8 0]).cells n).toList.length = n * 2 := by rw [Array.length_toList, size_zeroCells]; rfl
  have hst := run_storeCells_cells (P := Yba.prog) b o (Builtin.zeroCells (Value.agg #[.pointer none, .int .u8 0]).cells n).toList 0 w (by rw [hl]; simpa using hc) (by rw [hl]; simpa using hf) (zc_all n)
  simp only [Nat.add_zero] at hst
  obtain ⟨m, rfl⟩ : ∃ m, n = m + 1 := ⟨n - 1, by omega⟩
  simp [Builtin.clear_, run_underlying Yba.underlying70, hst]

theorem inV_of {b q n c : Nat} (h : q = b) : InV (.slice (some ⟨b, 0, none⟩) n c) q := ⟨n, c, by rw [h]⟩
theorem filter_take {p : Ent → Bool} {xs : List Ent} {k : Nat} {e : Ent} (h : xs[k]? = some e) : (xs.take (k + 1)).filter p = (xs.take k).filter p ++ (if p e then [e] else []) := by
  rw [List.take_add_one, h, List.filter_append]
  by_cases hp : p e = true <;> simp [hp]
theorem filter_all {p : Ent → Bool} {xs : List Ent} (h : ∀ x ∈ xs, p x = true) : xs.filter p = xs := List.filter_eq_self.2 h

/-- what DeleteFunc has done in block b: the first j are looked at. -/
structure Dl (w : World) (b n cap : Nat) (xs : List Ent) (keep : Ent → Bool) (i j : Nat) (wr : World) : Prop where
  chg : Chg (· = b) w wr
  len : ((xs.take j).filter keep).length = i
  lt : i < j
  le : j ≤ n
  row : ∃ G rest : List Value, G.length = (j - i) * 2 ∧ rest.length = (cap - n) * 2 ∧ Flat wr b 79 (lc ((xs.take j).filter keep) ++ (G ++ (lc (xs.drop j) ++ rest)))

theorem lc_take_drop (xs : List Ent) (k : Nat) : lc xs = lc (xs.take k) ++ lc (xs.drop k) := by rw [← lc_append, List.take_append_drop]
theorem Dl.start {w wr : World} {b n cap : Nat} {xs : List Ent} {keep : Ent → Bool} {k : Nat} {e : Ent} (hn : xs.length = n) (hR : ∃ rest, rest.length = (cap - n) * 2 ∧ Flat w b 79 (lc xs ++ rest)) (hb : Below w.heap.size w wr) (he : xs[k]? = some e) (hk : keep e = false) (hall : ∀ x ∈ xs.take k, keep x = true) : Dl w b n cap xs keep k (k + 1) wr := by
  obtain ⟨rest, hr, hF⟩ := hR
  have hlt : k < xs.length := (List.getElem?_eq_some_iff.1 he).1
  have hf : (xs.take (k + 1)).filter keep = xs.take k := by rw [filter_take he, filter_all hall, hk]; simp
  refine ⟨Chg.of_below hb, by rw [hf, List.length_take]; omega, by omega, by omega, lc [e], rest, by rw [lc_length]; simp, hr, ?_⟩
  have := hF.chg (Chg.of_below (S := fun _ => False) hb) (fun h => h)
  rw [hf]
  have e1 : xs.drop k = e :: xs.drop (k + 1) := by rw [List.drop_eq_getElem_cons hlt]; rw [(List.getElem?_eq_some_iff.1 he).2]
  rw [lc_take_drop xs k, e1, show lc (e :: xs.drop (k + 1)) = lc [e] ++ lc (xs.drop (k + 1)) from rfl] at this
  simpa using this

theorem Dl.reads {w wr : World} {b n cap : Nat} {xs : List Ent} {keep : Ent → Bool} {i j : Nat} {e : Ent} (D : Dl w b n cap xs keep i j wr) (hn : xs.length = n) (he : xs[j]? = some e) :
    wr.cell? ⟨b, j * 2, none⟩ = some (.pointer (some ⟨e.c, 0, none⟩)) ∧ wr.cell? ⟨b, j * 2 + 1, none⟩ = some (.int .u8 e.m) := by
  obtain ⟨G, rest, hG, hr, hF⟩ := D.row
  have hlt : j < xs.length := (List.getElem?_eq_some_iff.1 he).1
  have e1 : xs.drop j = e :: xs.drop (j + 1) := by rw [List.drop_eq_getElem_cons hlt]; rw [(List.getElem?_eq_some_iff.1 he).2]
  have hl := D.len
  have hij := D.lt
  have h1 : (lc ((xs.take j).filter keep)).length = i * 2 := by rw [lc_length, hl]
  constructor
  · rw [hF.cell, List.getElem?_append_right (by omega), List.getElem?_append_right (by omega), List.getElem?_append_left (by simp only [lc_length, e1, List.length_cons, hG, h1]; omega), e1, h1, hG, show j * 2 - i * 2 - (j - i) * 2 = 0 by omega]
    rfl
  · rw [hF.cell, List.getElem?_append_right (by omega), List.getElem?_append_right (by omega), List.getElem?_append_left (by simp only [lc_length, e1, List.length_cons, hG, h1]; omega), e1, h1, hG, show j * 2 + 1 - i * 2 - (j - i) * 2 = 1 by omega]
    rfl
theorem Dl.is {w wr : World} {b n cap : Nat} {xs : List Ent} {keep : Ent → Bool} {i j : Nat} (D : Dl w b n cap xs keep i j wr) (hn : xs.length = n) (o : Nat) (ho : o < n * 2) : (wr.cell? ⟨b, o, none⟩).isSome = true ∧ wr.frozen? ⟨b, o, none⟩ = false := by
  obtain ⟨G, rest, hG, hr, hF⟩ := D.row
  have hl := D.len
  have hij := D.lt
  have hle := D.le
  have h1 : (lc ((xs.take j).filter keep)).length = i * 2 := by rw [lc_length, hl]
  refine ⟨?_, hF.free o⟩
  rw [hF.cell, List.getElem?_eq_getElem (by rw [List.length_append, List.length_append, List.length_append, h1, hG, lc_length, List.length_drop]; omega)]
  rfl
theorem Dl.below {w wr wr' : World} {b n cap : Nat} {xs : List Ent} {keep : Ent → Bool} {i j : Nat} (D : Dl w b n cap xs keep i j wr) (h : Below wr.heap.size wr wr') : Dl w b n cap xs keep i j wr' := by
  obtain ⟨G, rest, hG, hr, hF⟩ := D.row
  exact ⟨D.chg.trans (Chg.of_below h), D.len, D.lt, D.le, G, rest, hG, hr, hF.chg (Chg.of_below (S := fun _ => False) h) (fun h => h)⟩
theorem Dl.skip {w wr : World} {b n cap : Nat} {xs : List Ent} {keep : Ent → Bool} {i j : Nat} {e : Ent} (D : Dl w b n cap xs keep i j wr) (hn : xs.length = n) (he : xs[j]? = some e) (hk : keep e = false) : Dl w b n cap xs keep i (j + 1) wr := by
  obtain ⟨G, rest, hG, hr, hF⟩ := D.row
  have hlt : j < xs.length := (List.getElem?_eq_some_iff.1 he).1
  have e1 : xs.drop j = e :: xs.drop (j + 1) := by rw [List.drop_eq_getElem_cons hlt]; rw [(List.getElem?_eq_some_iff.1 he).2]
  have hf : (xs.take (j + 1)).filter keep = (xs.take j).filter keep := by rw [filter_take he, hk]; simp
  have hij := D.lt
  refine ⟨D.chg, by rw [hf]; exact D.len, by omega, by omega, G ++ lc [e], rest, by rw [List.length_append, hG, lc_length]; simp; omega, hr, ?_⟩
  rw [hf]
  rw [e1, show lc (e :: xs.drop (j + 1)) = lc [e] ++ lc (xs.drop (j + 1)) from rfl] at hF
  simpa using hF
theorem Dl.put {w wr : World} {b n cap : Nat} {xs : List Ent} {keep : Ent → Bool} {i j : Nat} {e : Ent} (D : Dl w b n cap xs keep i j wr) (hn : xs.length = n) (he : xs[j]? = some e) (hk : keep e = true) : Dl w b n cap xs keep (i + 1) (j + 1) (wr.setCells b (i * 2) [.pointer (some ⟨e.c, 0, none⟩), .int .u8 e.m]) := by
  obtain ⟨G, rest, hG, hr, hF⟩ := D.row
  have hlt : j < xs.length := (List.getElem?_eq_some_iff.1 he).1
  have e1 : xs.drop j = e :: xs.drop (j + 1) := by rw [List.drop_eq_getElem_cons hlt]; rw [(List.getElem?_eq_some_iff.1 he).2]
  have hf : (xs.take (j + 1)).filter keep = (xs.take j).filter keep ++ [e] := by rw [filter_take he, hk]; simp
  have hl := D.len
  have hij := D.lt
  have hle := D.le
  have h1 : (lc ((xs.take j).filter keep)).length = i * 2 := by rw [lc_length, hl]
  have hG2 : ∃ g0 g1 G', G = g0 :: g1 :: G' := by
    match G, hG with
    | [], h => simp at h; omega
    | [_], h => simp at h; omega
    | g0 :: g1 :: G', _ => exact ⟨g0, g1, G', rfl⟩
  obtain ⟨g0, g1, G', rfl⟩ := hG2
  rw [e1, show lc (e :: xs.drop (j + 1)) = lc [e] ++ lc (xs.drop (j + 1)) from rfl] at hF
  obtain ⟨f1, f2⟩ := flat_setCells b 79 [.pointer (some ⟨e.c, 0, none⟩), .int .u8 e.m] (i * 2) wr _ hF (by simp; omega)
  refine ⟨D.chg.trans f2, by rw [hf, List.length_append, hl]; rfl, by omega, by omega, G' ++ lc [e], rest, by rw [List.length_append, lc_length]; simp at hG ⊢; omega, hr, ?_⟩
  rw [hf, lc_append]
  have e2 : (lc ((xs.take j).filter keep) ++ (g0 :: g1 :: G' ++ (lc [e] ++ lc (xs.drop (j + 1)) ++ rest))).take (i * 2) = lc ((xs.take j).filter keep) := by
    rw [List.take_append_of_le_length (by omega), List.take_of_length_le (by omega)]
  have e3 : (lc ((xs.take j).filter keep) ++ (g0 :: g1 :: G' ++ (lc [e] ++ lc (xs.drop (j + 1)) ++ rest))).drop (i * 2 + 2) = G' ++ (lc [e] ++ lc (xs.drop (j + 1)) ++ rest) := by
    rw [List.drop_append, List.drop_of_length_le (by omega), h1, show i * 2 + 2 - i * 2 = 2 by omega]
    rfl
  rw [e2, show [Value.pointer (some ⟨e.c, 0, none⟩), Value.int .u8 e.m].length = 2 from rfl, e3] at f1
  simpa [lc] using f1
theorem Dl.ends {w wr : World} {b n cap : Nat} {xs : List Ent} {keep : Ent → Bool} {i : Nat} (D : Dl w b n cap xs keep i n wr) (hn : xs.length = n) (hcap : n ≤ cap) {Z : List Value} (hZ : Z.length = (n - i) * 2) :
    Reqs (wr.setCells b (i * 2) Z) (.slice (some ⟨b, 0, none⟩) i cap) (xs.filter keep) ∧ Chg (· = b) w (wr.setCells b (i * 2) Z) := by
  obtain ⟨G, rest, hG, hr, hF⟩ := D.row
  have hl := D.len
  have hij := D.lt
  rw [List.take_of_length_le (by omega)] at hl hF
  rw [List.drop_of_length_le (by omega)] at hF
  have h1 : (lc (xs.filter keep)).length = i * 2 := by rw [lc_length, hl]
  obtain ⟨f1, f2⟩ := flat_setCells b 79 Z (i * 2) wr _ hF (by simp; omega)
  refine ⟨⟨by rw [lc_length], .inr ⟨b, cap, Z ++ rest, by rw [hl], by omega, by rw [List.length_append, hZ, hr, hl]; omega, ?_⟩⟩, D.chg.trans f2⟩
  rw [List.take_append_of_le_length (by omega), List.take_of_length_le (by omega), List.drop_append, List.drop_of_length_le (by omega), h1, hZ, List.nil_append, List.drop_append, List.drop_of_length_le (by omega), List.nil_append,
    show i * 2 + (n - i) * 2 - i * 2 - G.length = 0 by omega] at f1
  simpa [lc] using f1

set_option maxRecDepth 100000 in
set_option maxHeartbeats 1000000 in
/-- slices.DeleteFunc with grant's closure. -/
theorem deleteFunc_is (yv : Value) (ys : List Ent) (vb : Nat) (hv : Value) (xs : List Ent) (w : World) (hcell : w.cell? ⟨vb, 0, none⟩ = some yv) (hys : Cohs w yv ys) (hyall : ∀ y ∈ ys, IsC w y.c) (hyl : ys.length ≤ 4096) (hxall : ∀ x ∈ xs, IsC w x.c) (hx : Reqs w hv xs) (hlen : xs.length ≤ 4096)
    (hap : ∀ b, InV hv b → b ≠ vb ∧ ¬ InV yv b ∧ (∀ y ∈ ys, b ≠ y.c) ∧ (∀ x ∈ xs, b ≠ x.c)) :
    Calls Yba.prog 39 #[hv, .func (.func 40) #[] #[.pointer (some ⟨vb, 0, none⟩)]] w fun e w' => ∃ v', e = .returned v' ∧ Reqs w' v' (xs.filter (fun x => !has ys x.c)) ∧ Chg (InV hv) w w' ∧ (∀ b, InV v' b → InV hv b) := by
  have HI : Hid (Calls Yba.prog 36 #[hv, .func (.func 40) #[] #[.pointer (some ⟨vb, 0, none⟩)]] w fun e w' => e = .returned (.int .i64 (firstAt (fun x => has ys x.c) xs 0)) ∧ Below w.heap.size w w') := indexFunc_vict yv ys vb hv xs w hcell hys hyall hyl hxall hx hlen
  have HY : Hid (∀ W, Chg (InV hv) w W → ∀ e ∈ xs, Calls Yba.prog 40 #[.agg #[.pointer (some ⟨e.c, 0, none⟩), .int .u8 e.m], .pointer (some ⟨vb, 0, none⟩)] W fun r w' => r = .returned (.bool (has ys e.c)) ∧ Below W.heap.size W w') := fun W hB e he =>
    grant1_is yv ys vb e.c e.m W (hB.keep (fun h => (hap _ h).1 rfl) hcell) (Own.chg hys hB (fun b hb hb' => (hap b hb').2.1 hb)) (fun y hy => (hyall y hy).chg hB (fun h => (hap _ h).2.2.1 y hy rfl)) ((hxall e he).chg hB (fun h => (hap _ h).2.2.2 e he rfl)) hyl
  obtain ⟨ao, cap, hvE⟩ := hx.len
  have HX : Hid (Reqs w hv xs) := hx
  clear hx hcell hys hyall hxall hap
  subst hvE
  generalize hgn : xs.length = n at *
  have HN : Hid (xs.length = n) := hgn
  rcases firstAt_spec (fun x => has ys x.c) xs 0 with ⟨hf, hall⟩ | ⟨k, e0, hf, he0, hp0, hall⟩
  · rw [hf] at HI
    have HF : Hid (xs.filter (fun x => !has ys x.c) = xs) := filter_all (fun x hx => by simp [hall x hx])
    clear hf hall
    go_enter Yba.func39, Yba.ntmps39
    go_wp2_with fail
    with_reducible refine HI.out.mono ?_
    rintro e w1 ⟨rfl, hb1⟩
    go_wp2
    go_ret
    refine ⟨_, rfl, ?_, Chg.of_below hb1, fun b h => h⟩
    rw [HF.out]
    exact Own.chg HX.out (Chg.of_below (S := fun _ => False) hb1) (fun _ _ h => h)
  · rw [hf] at HI
    have hkn : k < n := by have := (List.getElem?_eq_some_iff.1 he0).1; omega
    have hR : ∃ b rest, ao = some ⟨b, 0, none⟩ ∧ n ≤ cap ∧ rest.length = (cap - n) * 2 ∧ Flat w b 79 (lc xs ++ rest) := by
      rcases HX.out.2 with ⟨h0, h1⟩ | ⟨b, cap', rest, h0, h1, h2, h3⟩
      · omega
      · cases h0; exact ⟨b, rest, rfl, by omega, by rw [← hgn]; exact h2, h3⟩
    obtain ⟨b, rest, hao, hcap, hrl, hflat⟩ := hR
    subst hao
    have hbl : b < w.heap.size := hflat.lt
    have HS : Hid (∀ W, Below w.heap.size w W → Dl w b n cap xs (fun x => !has ys x.c) k (k + 1) W) := fun W hB => Dl.start hgn ⟨rest, hrl, hflat⟩ hB he0 (by simp [hp0]) (fun x hx => by simp [hall x hx])
    clear hf he0 hp0 hall hrl hflat
    simp only [Nat.zero_add] at HI
    have hne1 : (((k : Nat) : Int) == -1) = false := beq_eq_false_iff_ne.2 (by omega)
    go_enter Yba.func39, Yba.ntmps39
    go_wp2_with fail
    with_reducible refine HI.out.mono ?_
    rintro e w1 ⟨rfl, hb1⟩
    have HS1 : Hid (Dl w b n cap xs (fun x => !has ys x.c) k (k + 1) w1) := HS.out w1 hb1
    clear hb1
    go_wp2
    go_loopw [5, 6, 7] (fun s5 s6 s7 wr => ∃ (i j : Nat), s5 = .int .i64 i ∧ s6 = .int .i64 j ∧ Dl w b n cap xs (fun x => !has ys x.c) i j wr) (fun _ j _ _ => n - (intOf j).toNat)
    case atStart => exact ⟨k, k + 1, rfl, by go_num, HS1.out⟩
    case round =>
      obtain ⟨i, j, rfl, rfl, D⟩ := hrel
      have hij := D.lt
      have hle := D.le
      by_cases hlt : j < n
      · obtain ⟨e, he⟩ : ∃ e, xs[j]? = some e := ⟨_, List.getElem?_eq_getElem (by have := HN.out; omega)⟩
        obtain ⟨r0, r1⟩ := D.reads HN.out he
        have HD : Hid (Dl w b n cap xs (fun x => !has ys x.c) i j wr) := D
        have HE : Hid (xs[j]? = some e) := he
        have hszr : b < wr.heap.size := block_lt_of_cell r0
        clear D he
        go_wp2_with fail
        with_reducible refine (HY.out _ ((HD.out.below ((Below.refl _ _).alloc (Nat.le_refl _) _)).chg.mono (fun q _ h => inV_of h)) e (List.mem_of_getElem? HE.out)).mono ?_
        rintro e1 w2 ⟨rfl, hb2⟩
        have y0 : w2.cell? ⟨wr.heap.size, 0, none⟩ = some (.pointer (some ⟨e.c, 0, none⟩)) := hb2.keep (by simp)
        have y1 : w2.cell? ⟨wr.heap.size, 1, none⟩ = some (.int .u8 e.m) := hb2.keep (by simp)
        have D2 : Dl w b n cap xs (fun x => !has ys x.c) i j w2 := (HD.out.below ((Below.refl _ _).alloc (Nat.le_refl _) _)).below hb2
        obtain ⟨q0, q1⟩ := D2.is HN.out (i * 2) (by omega)
        obtain ⟨q2, q3⟩ := D2.is HN.out (i * 2 + 1) (by omega)
        obtain ⟨o0, q0⟩ := Option.isSome_iff_exists.1 q0
        obtain ⟨o1, q2⟩ := Option.isSome_iff_exists.1 q2
        have HD2 : Hid (Dl w b n cap xs (fun x => !has ys x.c) i j w2) := D2
        clear r0 r1 hb2 D2 HD
        by_cases hc : has ys e.c = true
        · have HD3 : Hid (Dl w b n cap xs (fun x => !has ys x.c) i (j + 1) w2) := HD2.out.skip HN.out HE.out (by simp [hc])
          go_wp2
          go_roundw
          case rel => exact ⟨i, j + 1, rfl, by go_num, HD3.out⟩
          case measure => simp [intOf]; omega
        · have hc' : has ys e.c = false := by simpa using hc
          have HD3 : Hid (Dl w b n cap xs (fun x => !has ys x.c) (i + 1) (j + 1) (w2.setCells b (i * 2) [.pointer (some ⟨e.c, 0, none⟩), .int .u8 e.m])) := HD2.out.put HN.out HE.out (by simp [hc'])
          clear hc
          go_wp2
          go_roundw
          case rel => exact ⟨i + 1, j + 1, by go_num, by go_num, HD3.out⟩
          case measure => simp [intOf]; omega
      · obtain rfl : j = n := by omega
        obtain ⟨Z, hZ, hcl⟩ := run_clear wr b (i * 2) (j - i) (cap - i) (by omega) (fun q hq => (D.is HN.out _ (by omega)).1) (fun q hq => (D.is HN.out _ (by omega)).2)
        have HE : Hid (Reqs (wr.setCells b (i * 2) Z) (.slice (some ⟨b, 0, none⟩) i cap) (xs.filter (fun x => !has ys x.c)) ∧ Chg (· = b) w (wr.setCells b (i * 2) Z)) := D.ends HN.out hcap hZ
        clear D hZ
        go_wp2
        go_ret
        exact ⟨_, rfl, HE.out.1, HE.out.2.mono (fun q _ h => inV_of h), fun q ⟨n', c', h⟩ => by cases h; exact inV_of rfl⟩
end Go.Proofs.Ybulkboha
