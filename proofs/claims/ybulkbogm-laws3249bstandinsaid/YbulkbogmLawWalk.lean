import Derived.Test.YbulkbogmDigest
namespace Go.Proofs.Ybulkbogm
open Go.RowKit
set_option linter.unusedVariables false

set_option maxHeartbeats 800000 in
theorem law_long (a0 : Option Addr) (len cap : Nat) (w : World) (h : 1024 < len) (hm : len ≤ 9223372036854775807) :
    Calls Yba.prog 3 #[.slice a0 len cap] w fun e w' => e = .returned (.bool true) ∧ Below w.heap.size w w' := by
  have h' : (1024 : Int) < (len : Int) := by omega
  go_enter Yba.func3, Yba.ntmps3
  go_wp2
  go_ret
  exact ⟨rfl, Below.refl _ _⟩

/-- the world behind 'id := digest(h)': what the rest of the law reads. -/
theorem law_world (w w1 : World) (v : Value) (xs : List Int) (Z : Array Value) (hsz : w.heap.size < w1.heap.size)
    (ks : w1.heap[w.heap.size]? = some (.cells (hObj v 1 0 0 32) 25 (0, 0))) (kb : Below w.heap.size w w1) :
    ∃ W2, (w1.alloc (.cells Z 27)).setRow w1.heap.size (wantArr xs) = W2 ∧ W2.cell? ⟨w.heap.size, 1, none⟩ = some (.int .i64 1) ∧ W2.cell? ⟨w.heap.size, 2, none⟩ = some (.int .i64 0) ∧
      W2.cell? ⟨w.heap.size, 3, none⟩ = some (.int .i64 0) ∧ W2.cell? ⟨w.heap.size, 4, none⟩ = some (.int .i64 32) ∧
      (∀ j, j < 32 → W2.cell? ⟨w1.heap.size, j, none⟩ = some (.int .u8 (wantZ xs j))) ∧ Below w.heap.size w W2 := by
  refine ⟨_, rfl, ?_⟩
  have hn : ((w1.alloc (.cells Z 27)).setRow w1.heap.size (wantArr xs)).heap[w.heap.size]? = some (.cells (hObj v 1 0 0 32) 25 (0, 0)) := by
    rw [setRow_other _ _ _ _ (by omega), Below.heap_alloc _ _ _ hsz, ks]
  have hi : ((w1.alloc (.cells Z 27)).setRow w1.heap.size (wantArr xs)).heap[w1.heap.size]? = some (.cells (wantArr xs) 27 (0, 0)) :=
    setRow_heap _ _ _ _ _ _ (heap_alloc_new _ _)
  refine ⟨by rw [cell_of_row _ _ _ _ _ _ hn]; rfl, by rw [cell_of_row _ _ _ _ _ _ hn]; rfl, by rw [cell_of_row _ _ _ _ _ _ hn]; rfl, by rw [cell_of_row _ _ _ _ _ _ hn]; rfl,
    fun j hj => by rw [cell_of_row _ _ _ _ _ _ hi, wantArr_get _ _ hj], ?_⟩
  have hb := kb.alloc (Nat.le_of_lt hsz) (.cells Z 27)
  exact ⟨hb.os, hb.tape, hb.output, by rw [setRow_size]; exact hb.size, fun k hk => by rw [setRow_other _ _ _ _ (by omega)]; exact hb.block k hk⟩

theorem want_in (zs : List Int) (len k : Nat) (h1 : len ≤ 32) (h2 : k < len) (h3 : len ≤ zs.length) : wantZ (zs.take len) k = zs.getD k 0 := by
  unfold wantZ
  rw [if_pos (by rw [List.length_take]; omega), List.getElem?_take_of_lt h2, List.getD_eq_getElem?_getD]
theorem want_out (zs : List Int) (len k : Nat) (h : ¬ (len ≤ 32 ∧ k < len)) (h3 : len ≤ zs.length) : wantZ (zs.take len) k = 0 := by
  unfold wantZ
  have hl : (zs.take len).length = len := by rw [List.length_take]; omega
  rw [hl]
  split
  · rw [List.getElem?_eq_none (by omega)]; rfl
  · rfl

set_option maxHeartbeats 1000000 in
theorem law_pos (b off : Nat) (len cap : Nat) (zs : List Int) (w : World) (hr : IsRow .u8 w (some ⟨b, off, none⟩) len cap zs) (hl : len ≤ 1024) (hzl : len ≤ zs.length) (hcell : ∀ j, j < len → w.cell? ⟨b, off + j, none⟩ = some (.int .u8 (zs.getD j 0))) :
    Calls Yba.prog 3 #[.slice (some ⟨b, off, none⟩) len cap] w fun e w' => e = .returned (.bool true) ∧ Below w.heap.size w w' := by
  have h' : ¬ (1024 : Int) < (len : Int) := by omega
  have HR : Hid (IsRow .u8 w (some ⟨b, off, none⟩) len cap zs) := hr
  clear hr
  have HC : Hid (∀ j, j < len → w.cell? ⟨b, off + j, none⟩ = some (.int .u8 (zs.getD j 0))) := hcell
  clear hcell
  go_enter Yba.func3, Yba.ntmps3
  go_wp2_with fail
  refine (digest_any w.heap.size (some ⟨b, off, none⟩) len cap zs w _ ?_ (Nat.le_refl _) ?_ HR.out hl ?_).mono ?_
  · simp
  · exact (Below.refl _ _).alloc (Nat.le_refl _) _
  · exact heap_alloc_new _ _
  rintro e w1 ⟨rfl, k1, k2⟩
  have hsz : w.heap.size < w1.heap.size := by have := k2.size; simp at this; omega
  have KS : Hid (w1.heap[w.heap.size]? = some (.cells (hObj (.slice (some ⟨b, off, none⟩) len cap) 1 0 0 32) 25 (0, 0))) := k1
  have KB : Hid (Below w.heap.size w w1) := ((Below.refl _ _).alloc (Nat.le_refl _) _).trans k2
  clear k1 k2
  go_wp2_with (refine wpList_store_row rfl 27 (.tmp 4) (.tmp 15) rfl w1.heap.size (wantArr (zs.take len)) rfl rfl 27 _ (heap_alloc_new _ _) (by rw [wantArr_size, info27]) (by rw [wantArr_size]; rfl) (wantArr_one _) ?_; obtain ⟨W2, hW2, c1, c2, c3, c4, ci, kb2⟩ := law_world w w1 (.slice (some ⟨b, off, none⟩) len cap) (zs.take len) _ hsz KS.out KB.out; rw [hW2]; clear hW2)
  have KB2 : Hid (Below w.heap.size w W2) := kb2
  have CI : Hid (∀ j, j < 32 → W2.cell? ⟨w1.heap.size, j, none⟩ = some (.int .u8 (wantZ (zs.take len) j))) := ci
  clear kb2 ci
  go_loop [5] (fun i => ∃ k : Nat, k ≤ 32 ∧ i = .int .i64 k) (fun i => 32 - (intOf i).toNat)
  case atStart => exact ⟨0, by omega, rfl⟩
  case round =>
    obtain ⟨k, hk, rfl⟩ := hrel
    by_cases hlt : k < 32
    · have hid := CI.out k hlt
      by_cases hc : len ≤ 32 ∧ k < len
      · have hw := want_in zs len k hc.1 hc.2 hzl
        rw [hw] at hid
        clear hw
        have hsrc : W2.cell? ⟨b, off + k, none⟩ = some (.int .u8 (zs.getD k 0)) := by
          rw [KB2.out.cell (p := ⟨b, off + k, none⟩) (block_lt_of_cell (HC.out k hc.2)), HC.out k hc.2]
        obtain ⟨hc1, hc2⟩ := hc
        generalize zs.getD k 0 = z at hid hsrc
        go_wp2
        go_round
        case rel => exact ⟨k + 1, by omega, by go_num⟩
        case measure => simp [intOf]; omega
      · have hw := want_out zs len k hc hzl
        rw [hw] at hid
        clear hw
        by_cases hc1 : len ≤ 32
        · have hc2 : ¬ k < len := fun h => hc ⟨hc1, h⟩
          clear hc
          go_wp2
          go_round
          case rel => exact ⟨k + 1, by omega, by go_num⟩
          case measure => simp [intOf]; omega
        · clear hc
          go_wp2
          go_round
          case rel => exact ⟨k + 1, by omega, by go_num⟩
          case measure => simp [intOf]; omega
    · go_wp2
      go_ret
      exact ⟨rfl, KB2.out⟩

set_option maxHeartbeats 1000000 in
theorem law_zero (a0 : Option Addr) (len cap : Nat) (zs : List Int) (w : World) (hr : IsRow .u8 w a0 len cap zs) (hl : len ≤ 1024) (hzl : len ≤ zs.length) (HL0 : Hid (len = 0)) :
    Calls Yba.prog 3 #[.slice a0 len cap] w fun e w' => e = .returned (.bool true) ∧ Below w.heap.size w w' := by
  have h' : ¬ (1024 : Int) < (len : Int) := by omega
  have HR : Hid (IsRow .u8 w a0 len cap zs) := hr
  clear hr
  go_enter Yba.func3, Yba.ntmps3
  go_wp2_with fail
  refine (digest_any w.heap.size a0 len cap zs w _ ?_ (Nat.le_refl _) ?_ HR.out hl ?_).mono ?_
  · simp
  · exact (Below.refl _ _).alloc (Nat.le_refl _) _
  · exact heap_alloc_new _ _
  rintro e w1 ⟨rfl, k1, k2⟩
  have hsz : w.heap.size < w1.heap.size := by have := k2.size; simp at this; omega
  have KS : Hid (w1.heap[w.heap.size]? = some (.cells (hObj (.slice a0 len cap) 1 0 0 32) 25 (0, 0))) := k1
  have KB : Hid (Below w.heap.size w w1) := ((Below.refl _ _).alloc (Nat.le_refl _) _).trans k2
  clear k1 k2
  go_wp2_with (refine wpList_store_row rfl 27 (.tmp 4) (.tmp 15) rfl w1.heap.size (wantArr (zs.take len)) rfl rfl 27 _ (heap_alloc_new _ _) (by rw [wantArr_size, info27]) (by rw [wantArr_size]; rfl) (wantArr_one _) ?_; obtain ⟨W2, hW2, c1, c2, c3, c4, ci, kb2⟩ := law_world w w1 (.slice a0 len cap) (zs.take len) _ hsz KS.out KB.out; rw [hW2]; clear hW2)
  have KB2 : Hid (Below w.heap.size w W2) := kb2
  have CI : Hid (∀ j, j < 32 → W2.cell? ⟨w1.heap.size, j, none⟩ = some (.int .u8 (wantZ (zs.take len) j))) := ci
  clear kb2 ci
  go_loop [5] (fun i => ∃ k : Nat, k ≤ 32 ∧ i = .int .i64 k) (fun i => 32 - (intOf i).toNat)
  case atStart => exact ⟨0, by omega, rfl⟩
  case round =>
    obtain ⟨k, hk, rfl⟩ := hrel
    by_cases hlt : k < 32
    · have hid := CI.out k hlt
      have hw := want_out zs len k (by have := HL0.out; omega) hzl
      rw [hw] at hid
      clear hw
      have hkl : ¬ k < len := by have := HL0.out; omega
      have hk3 : len ≤ 32 := by have := HL0.out; omega
      go_wp2
      go_round
      case rel => exact ⟨k + 1, by omega, by go_num⟩
      case measure => simp [intOf]; omega
    · go_wp2
      go_ret
      exact ⟨rfl, KB2.out⟩

/-- the law, whatever the slice. -/
theorem law_walk (a0 : Option Addr) (len cap : Nat) (zs : List Int) (w : World) (hr : IsRow .u8 w a0 len cap zs) :
    Calls Yba.prog 3 #[.slice a0 len cap] w fun e w' => e = .returned (.bool true) ∧ Below w.heap.size w w' := by
  by_cases hlong : 1024 < len
  · refine law_long a0 len cap w hlong ?_
    rcases hr with ⟨_, rfl, _⟩ | ⟨x, _, h1, h2, _⟩
    · omega
    · unfold maxLen at h2; omega
  · by_cases h0 : len = 0
    · exact law_zero a0 len cap zs w hr (by omega) (by omega) h0
    · rcases hr with ⟨_, h, _⟩ | ⟨x, rfl, h1, h2, h3, h4, h5⟩
      · exact absurd h h0
      · obtain ⟨b, off, spot⟩ := x
        have hspot : spot = none := by simpa [Addr.add] using World.cell?_spot (h4 0 (by omega))
        subst hspot
        exact law_pos b off len cap zs w (.inr ⟨_, rfl, h1, h2, h3, h4, h5⟩) (by omega) (by omega) (fun j hj => by rw [← Go.WideShapes.add_plain]; exact h4 j (by omega))
end Go.Proofs.Ybulkbogm
