import Derived.Test.YbulkbojsHdr
import Derived.Test.YbulkbojsSays
import Derived.Deep.RegionWith
namespace Go.Proofs.Ybulkbojs
open Go.RowKit
set_option linter.unusedVariables false

/-- the cells of the argument. -/
def argArr (clock perf cpu start stamp : Int) : Array Value := #[.int .u32 clock, .int .i64 perf, .int .u32 cpu, .int .i64 start, .int .i64 stamp]

/-- the world behind 'h := zzs3255chdr(a)'. -/
structure Front (w : World) (hb : Nat) (clock perf cpu start stamp : Int) (W : World) : Prop where
  hdr : Hdr W hb clock perf cpu start stamp
  row : W.heap[w.heap.size]? = some (.cells (argArr clock perf cpu start stamp) 75 (0, 0))
  bel : Below w.heap.size w W

theorem front_world (w w1 : World) (clock perf cpu start stamp : Int) (Z : Array Value) (kb : Below (w.alloc (.cells (argArr clock perf cpu start stamp) 75)).heap.size (w.alloc (.cells (argArr clock perf cpu start stamp) 75)) w1) :
    Front w w1.heap.size clock perf cpu start stamp ((w1.alloc (.cells Z 37)).setRow w1.heap.size (hdrArr clock perf cpu start stamp)) := by
  have hsz : w.heap.size < w1.heap.size := by have := kb.size; simp at this; omega
  have hi : ((w1.alloc (.cells Z 37)).setRow w1.heap.size (hdrArr clock perf cpu start stamp)).heap[w1.heap.size]? = some (.cells (hdrArr clock perf cpu start stamp) 37 (0, 0)) :=
    setRow_heap _ _ _ _ _ _ (heap_alloc_new _ _)
  have hb0 : Below w.heap.size w w1 := by
    have h1 : Below w.heap.size w (w.alloc (.cells (argArr clock perf cpu start stamp) 75)) := (Below.refl _ _).alloc (Nat.le_refl _) _
    exact ⟨kb.os.trans h1.os, kb.tape.trans h1.tape, kb.output.trans h1.output, Nat.le_of_lt hsz, fun k hk => (kb.block k (by simp; omega)).trans (h1.block k hk)⟩
  refine ⟨⟨?_, ?_, ?_, ?_, ?_⟩, ?_, ?_⟩
  · rw [cell_of_row _ _ _ _ _ _ hi]; rfl
  · rw [cell_of_row _ _ _ _ _ _ hi]; rfl
  · rw [cell_of_row _ _ _ _ _ _ hi]; rfl
  · rw [cell_of_row _ _ _ _ _ _ hi]; rfl
  · rw [cell_of_row _ _ _ _ _ _ hi]; rfl
  · rw [setRow_other _ _ _ _ (by omega), Below.heap_alloc _ _ _ hsz, kb.block _ (by simp)]
    exact heap_alloc_new _ _
  · have hb := hb0.alloc (Nat.le_of_lt hsz) (.cells Z 37)
    exact ⟨hb.os, hb.tape, hb.output, by rw [setRow_size]; exact hb.size, fun k hk => by rw [setRow_other _ _ _ _ (by omega)]; exact hb.block k hk⟩

/-- the cells of the argument, read. -/
theorem row_cells {W : World} {b : Nat} {clock perf cpu start stamp : Int} (h : W.heap[b]? = some (.cells (argArr clock perf cpu start stamp) 75 (0, 0))) :
    W.cell? ⟨b, 0, none⟩ = some (.int .u32 clock) ∧ W.cell? ⟨b, 1, none⟩ = some (.int .i64 perf) ∧ W.cell? ⟨b, 2, none⟩ = some (.int .u32 cpu) ∧ W.cell? ⟨b, 3, none⟩ = some (.int .i64 start) ∧ W.cell? ⟨b, 4, none⟩ = some (.int .i64 stamp) := by
  refine ⟨?_, ?_, ?_, ?_, ?_⟩ <;> (rw [cell_of_row _ _ _ _ _ _ h]; rfl)
theorem bel_drew {w W : World} (h : Below w.heap.size w W) (k : Nat) : Below w.heap.size w (W.drewN k) := ⟨h.os, h.tape, h.output, h.size, h.block⟩
theorem bel_next {w W W' : World} (h : Below w.heap.size w W) (h' : Below W.heap.size W W') : Below w.heap.size w W' :=
  ⟨h'.os.trans h.os, h'.tape.trans h.tape, h'.output.trans h.output, Nat.le_trans h.size h'.size, fun k hk => (h'.block k (Nat.lt_of_lt_of_le hk h.size)).trans (h.block k hk)⟩
theorem row_next {W W' : World} {b : Nat} {o : Obj} (h : W.heap[b]? = some o) (h' : Below W.heap.size W W') : W'.heap[b]? = some o := by
  rw [h'.block b (by have := (Array.getElem?_eq_some_iff.1 h).1; exact this), h]
theorem info75 : (Yba.prog.info? 75).map (·.size) = some 5 := by kernel_rfl
theorem argArr_size (clock perf cpu start stamp : Int) : (argArr clock perf cpu start stamp).size = 5 := rfl

theorem near_self (s : Int) : Near s s := by unfold Near; omega
theorem floor_self (s r : Int) : floorQ s s r = 0 := by unfold floorQ; rw [Int.sub_self]; simp

set_option maxHeartbeats 1000000 in
theorem atStart_walk (clock perf cpu start stamp : Int) (w : World) (hp : perf ≤ 9223372036854775807)
    (hb : -9223372036854775808 ≤ stamp ∧ stamp ≤ 9223372036854775807) (hs : -9223372036854775808 ≤ start ∧ start ≤ 9223372036854775807) :
    Calls Yba.prog 7 #[.agg #[.int .u32 clock, .int .i64 perf, .int .u32 cpu, .int .i64 start, .int .i64 stamp]] w fun e w' => e = .returned (.bool true) ∧ Below w.heap.size w w' := by
  go_enter Yba.func7, Yba.ntmps7
  go_wp2_with fail
  refine (hdr_is clock perf cpu start stamp _).mono ?_
  rintro e w1 ⟨rfl, kb⟩
  have KB : Hid (Below (w.alloc (.cells (argArr clock perf cpu start stamp) 75)).heap.size (w.alloc (.cells (argArr clock perf cpu start stamp) 75)) w1) := kb
  clear kb
  go_wp2_with (refine wpList_store_row rfl 37 (.tmp 3) (.tmp 7) rfl w1.heap.size (hdrArr clock perf cpu start stamp) rfl rfl 37 _ (heap_alloc_new _ _) (by rw [hdrArr_size, info37]) (by rw [hdrArr_size]; rfl) (hdrArr_one _ _ _ _ _) ?_;
               obtain ⟨W, hW, FR⟩ : ∃ W, _ = W ∧ Front w w1.heap.size clock perf cpu start stamp W := ⟨_, rfl, front_world w w1 clock perf cpu start stamp _ KB.out⟩;
               rw [hW]; clear hW; obtain ⟨c0, c1, c2, c3, c4⟩ := row_cells FR.row)
  refine (time_says W w1.heap.size clock perf cpu start stamp stamp FR.hdr hp hb hb hs).mono ?_
  rintro e w2 ⟨t, ok, rfl, SY, k, rfl⟩
  have RW : Hid ((W.drewN k).heap[w.heap.size]? = some (.cells (argArr clock perf cpu start stamp) 75 (0, 0))) := FR.row
  have BL : Hid (Below w.heap.size w (W.drewN k)) := bel_drew FR.bel k
  clear FR KB c0 c1 c2 c3 c4
  generalize W.drewN k = V at *
  obtain ⟨c0, c1, c2, c3, c4⟩ := row_cells RW.out
  by_cases hc : clock = 2
  · obtain ⟨rfl, rfl⟩ := SY.sys hc
    clear SY
    subst hc
    go_wp2
    go_ret
    exact ⟨rfl, BL.out⟩
  · have e2 : (clock == 2) = false := by simpa using hc
    go_wp2_with (refine wpList_load_row rfl 75 (.tmp 1) rfl w.heap.size rfl 75 (argArr clock perf cpu start stamp) (0, 0) _ RW.out Yba.underlying75 rfl (by rw [argArr_size, info75]) ?_)
    refine (rate_is clock perf cpu start stamp _).mono ?_
    rintro e w4 ⟨rfl, kb⟩
    have RW4 : Hid (w4.heap[w.heap.size]? = some (.cells (argArr clock perf cpu start stamp) 75 (0, 0))) := row_next RW.out kb
    have BL4 : Hid (Below w.heap.size w w4) := bel_next BL.out kb
    clear kb RW BL c0 c1 c2 c3 c4
    obtain ⟨c0, c1, c2, c3, c4⟩ := row_cells RW4.out
    by_cases hr : rateOf clock perf cpu ≤ 0
    · obtain ⟨rfl, rfl⟩ := SY.zero hc hr
      clear SY
      generalize rateOf clock perf cpu = rate at *
      go_wp2
      go_ret
      exact ⟨rfl, BL4.out⟩
    · have hf := SY.rate hc (by omega) (near_self _)
      rw [floor_self, if_pos (by omega), Int.add_zero] at hf
      obtain ⟨rfl, rfl⟩ := hf
      clear SY
      generalize rateOf clock perf cpu = rate at *
      go_wp2
      go_ret
      exact ⟨rfl, BL4.out⟩
end Go.Proofs.Ybulkbojs
