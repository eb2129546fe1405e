import Derived.Test.YbulkbohaRows
import Derived.Test.YbulkbohaReplace
import Derived.Test.YbulkbohaOpen
import Derived.Lib.SmallJoins
namespace Go.Proofs.Ybulkboha.LawReplaceTop
open Go.ChangeShapes Go.WideShapes Go.ChangeAt Go.RowKit Go.Joins
set_option linter.unusedVariables false

theorem walk (a0 : Option Addr) (len cap : Nat) (xs : List (Int × Int)) (s1 s2 : Int) (w : World) (hn : xs.length = len) (hs : SrcI w a0 xs) (hm : len ≤ maxLen) :
    Calls Yba.prog 4 #[.slice a0 len cap, .agg #[.int .i64 s1, .int .u64 s2]] w fun e w' => e = .returned (.bool true) ∧ Below w.heap.size w w' := by
  by_cases h : 1024 < len
  · exact rt_long a0 len cap s1 s2 w h (by unfold maxLen at hm; omega)
  · rcases hs with h0 | ⟨b, off, rfl, hc⟩
    · rw [h0] at hn
      have : len = 0 := by simpa using hn.symm
      subst this
      exact rt_none a0 cap s1 s2 w
    · by_cases h0 : len = 0
      · subst h0; exact rt_none _ cap s1 s2 w
      · exact rt_any b off len cap xs (s1, s2) w hn (by omega) (by omega) hc

set_option maxRecDepth 100000 in
theorem lifted (os : Os) (started : os.Started) (H : Type) (enc : TypeId × Value → H) :
    ReturnsInHanded {} Yba.checked os 4 .any (Rows.lawS3250BReplaceTopSpec.pre6 enc Yba.prog Yba.f4 Rows.lawS3250BReplaceTopRow.domain false) (Rows.lawS3250BReplaceTopSpec.post enc Yba.prog Yba.f4 false true false false) := by
  refine returnsInHanded_of_change (C := Yba.checked) own started (by kernel_rfl) Yba.func4
    (ChangeSpec.witness6 (enc := enc) (C := Yba.checked) false ⟨#[], #[.slice none 0 0, .agg #[.int .i64 0, .int .u64 0]], []⟩ 8 (by kernel_rfl) (by kernel_rfl) (by kernel_rfl) (by kernel_rfl)) ?_
  intro W base args ds gs before hval0 hW hcnd _
  have hval : ∀ (j : Nat) t v, Yba.f4.params[j]? = some t → args[j]? = some v → Value.okWide Yba.prog W .any base t v := hval0
  have hW' := hW
  obtain ⟨p, q, hA0, hV, rfl, hfz, hnd⟩ := hW
  have hA : DataW.TrodAll enc Yba.prog W 0 (fun _ => true) true Yba.f4.params.toList args.toList ds p := hA0
  rw [Yba.params4] at hA hval
  obtain ⟨v0, v1, d0, d1, p0, p1, rfl, rfl, rfl, h0, h1⟩ := trodAll_two hA
  obtain ⟨rfl, rfl⟩ := trodVars_none hV
  obtain ⟨a0, len0, cap0, rfl⟩ := okWide_slice Yba.underlying22 (hval 0 22 v0 rfl rfl)
  have k0 := h0
  have k1 := h1
  have lt0 : ∀ x ∈ p0, x.block < W.heap.size := by obtain ⟨m, hm⟩ := k0; exact DataW.trod_lt m _ _ _ hm
  have lt1 : ∀ x ∈ p1, x.block < W.heap.size := by obtain ⟨m, hm⟩ := k1; exact DataW.trod_lt m _ _ _ hm
  obtain ⟨xs, hxl, hsrc, hml⟩ : ∃ xs, xs.length = len0 ∧ SrcI W a0 xs ∧ len0 ≤ maxLen := by
    obtain ⟨fuel, hf⟩ := h0
    exact open_items (by simpa [Value.cells] using hf)
  obtain ⟨s1, s2, rfl⟩ : ∃ s1 s2, v1 = .agg #[.int .i64 s1, .int .u64 s2] := by
    obtain ⟨c0, c1, y0, y1, m, e, _, _, hy0, hy1⟩ := open_agg2 Yba.underlying32 (by kernel_rfl) (by kernel_rfl) (hval 1 32 v1 rfl rfl) h1
    obtain ⟨a, e0, _⟩ := DataW.trod_int Yba.underlying2 hy0
    obtain ⟨b, e1, _⟩ := DataW.trod_int Yba.underlying26 hy1
    simp at e0 e1
    exact ⟨a, b, by rw [e, e0, e1]⟩
  clear hA0 hval0
  refine (walk a0 len0 cap0 xs s1 s2 W hxl hsrc hml).mono fun e W' ⟨he, bel⟩ => ?_
  subst he
  exact ⟨_, rfl, _, _, _, [], _, [], hW', trodAll_mk1 (shut_bool Yba.underlying4 _), (trodAll_mk2 (Below.trod laidOut (by kernel_rfl) (of_decide_eq_true (by kernel_rfl)) k0 bel lt0) (Below.trod laidOut (by kernel_rfl) (of_decide_eq_true (by kernel_rfl)) k1 bel lt1)), rfl, bel.frame _, fun h => by cases h⟩

theorem over : Rows.lawS3250BReplaceTopRow.holds Yba.pinned (OpenSpec.ofChange Rows.lawS3250BReplaceTopSpec) :=
  OpenClaim.holds_of_wide 4 Yba.f4 rfl rfl rfl rfl rfl rfl rfl ⟨rfl, rfl, rfl, rfl, rfl⟩ rfl rfl rfl rfl rfl (by kernel_rfl) Yba.func4 (by kernel_rfl)
    (of_decide_eq_true (by kernel_rfl)) (by unfold Func.isWrapper; first | (rw [if_pos (by decide +kernel)]; kernel_rfl) | (rw [if_neg (by decide +kernel)]; exact ⟨rfl, rfl⟩))
    (fun os started H enc _ => lifted os started H enc)

/-- THE STATEMENT -/
theorem proved : Rows.LawS3250BReplaceTopSaid := over
end Go.Proofs.Ybulkboha.LawReplaceTop
