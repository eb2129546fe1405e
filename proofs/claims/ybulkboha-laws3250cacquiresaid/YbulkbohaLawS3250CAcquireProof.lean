import Derived.Test.YbulkbohaRows
import Derived.Test.YbulkbohaLaw
import Derived.Test.YbulkbohaOpn
import Derived.Lib.SmallJoins
namespace Go.Proofs.Ybulkboha.LawAcquire
open Go.ChangeShapes Go.WideShapes Go.ChangeAt Go.RowKit Go.Joins
set_option linter.unusedVariables false

theorem walk (a0 a1 : Option Addr) (n0 n1 c0 c1 : Nat) (hr qr : List Req) (rq : Req) (page : Int) (ab po : Bool) (w : World) (l0 : hr.length = n0) (l1 : qr.length = n1) (hS0 : SrcR w a0 hr) (hS1 : SrcR w a1 qr) (m0 : n0 ≤ maxLen) (m1 : n1 ≤ maxLen) :
    Calls Yba.prog 5 #[.slice a0 n0 c0, .slice a1 n1 c1, .agg (reqArr rq), .int .i64 page, .bool ab, .bool po] w fun e w' => e = .returned (.bool true) ∧ Below w.heap.size w w' := by
  by_cases h : 1024 < n0
  · exact law_long0 a0 a1 n0 n1 c0 c1 rq page ab po w h m0
  · by_cases h' : 1024 < n1
    · exact law_long1 a0 a1 n0 n1 c0 c1 rq page ab po w (by omega) h' m1
    · subst l0; subst l1
      exact law_is a0 a1 c0 c1 hr qr rq page ab po w (by omega) (by omega) hS0 hS1

set_option maxRecDepth 100000 in
theorem lifted (os : Os) (started : os.Started) (H : Type) (enc : TypeId × Value → H) :
    ReturnsInHanded {} Yba.checked os 5 .any (Rows.lawS3250CAcquireSpec.pre6 enc Yba.prog Yba.f5 Rows.lawS3250CAcquireRow.domain false) (Rows.lawS3250CAcquireSpec.post enc Yba.prog Yba.f5 false true false false) := by
  refine returnsInHanded_of_change (C := Yba.checked) own5 started (by kernel_rfl) Yba.func5
    (ChangeSpec.witness6 (enc := enc) (C := Yba.checked) false ⟨#[], #[.slice none 0 0, .slice none 0 0, .agg #[.int .i16 0, .int .i16 0, .int .i8 0, .bool false, .int .u8 0, .bool false], .int .i64 0, .bool false, .bool false], []⟩ 8 (by kernel_rfl) (by kernel_rfl) (by kernel_rfl) (by kernel_rfl)) ?_
  intro W base args ds gs before hval0 hW hcnd _
  have hval : ∀ (j : Nat) t v, Yba.f5.params[j]? = some t → args[j]? = some v → Value.okWide Yba.prog W .any base t v := hval0
  have hW' := hW
  obtain ⟨p, q, hA0, hV, rfl, hfz, hnd⟩ := hW
  have hA : DataW.TrodAll enc Yba.prog W 0 (fun _ => true) true Yba.f5.params.toList args.toList ds p := hA0
  rw [Yba.params5] at hA hval
  obtain ⟨v0, r0, d0, ds0, p0, q0, e0, rfl, rfl, h0, hA⟩ := trodAll_cons hA
  obtain ⟨v1, r1, d1, ds1, p1, q1, rfl, rfl, rfl, h1, hA⟩ := trodAll_cons hA
  obtain ⟨v2, r2, d2, ds2, p2, q2, rfl, rfl, rfl, h2, hA⟩ := trodAll_cons hA
  obtain ⟨v3, r3, d3, ds3, p3, q3, rfl, rfl, rfl, h3, hA⟩ := trodAll_cons hA
  obtain ⟨v4, r4, d4, ds4, p4, q4, rfl, rfl, rfl, h4, hA⟩ := trodAll_cons hA
  obtain ⟨v5, r5, d5, ds5, p5, q5, rfl, rfl, rfl, h5, hA⟩ := trodAll_cons hA
  obtain ⟨rfl, rfl, rfl⟩ := trodAll_nil hA
  obtain rfl : args = #[v0, v1, v2, v3, v4, v5] := Array.toList_inj.1 (by simpa using e0)
  obtain ⟨rfl, rfl⟩ := trodVars_none hV
  obtain ⟨a0, n0, c0, rfl⟩ := okWide_slice Yba.underlying41 (hval 0 41 v0 rfl rfl)
  obtain ⟨a1, n1, c1, rfl⟩ := okWide_slice Yba.underlying41 (hval 1 41 v1 rfl rfl)
  have lt0 : ∀ x ∈ p0, x.block < W.heap.size := by obtain ⟨m, hm⟩ := h0; exact DataW.trod_lt m _ _ _ hm
  have lt1 : ∀ x ∈ p1, x.block < W.heap.size := by obtain ⟨m, hm⟩ := h1; exact DataW.trod_lt m _ _ _ hm
  have lt2 : ∀ x ∈ p2, x.block < W.heap.size := by obtain ⟨m, hm⟩ := h2; exact DataW.trod_lt m _ _ _ hm
  have lt3 : ∀ x ∈ p3, x.block < W.heap.size := by obtain ⟨m, hm⟩ := h3; exact DataW.trod_lt m _ _ _ hm
  have lt4 : ∀ x ∈ p4, x.block < W.heap.size := by obtain ⟨m, hm⟩ := h4; exact DataW.trod_lt m _ _ _ hm
  have lt5 : ∀ x ∈ p5, x.block < W.heap.size := by obtain ⟨m, hm⟩ := h5; exact DataW.trod_lt m _ _ _ hm
  obtain ⟨hr, l0, s0, m0⟩ : ∃ rs : List Req, rs.length = n0 ∧ SrcR W a0 rs ∧ n0 ≤ maxLen := by
    obtain ⟨fuel, hf⟩ := h0
    exact open_reqs (by simpa [Value.cells] using hf)
  obtain ⟨qr, l1, s1, m1⟩ : ∃ rs : List Req, rs.length = n1 ∧ SrcR W a1 rs ∧ n1 ≤ maxLen := by
    obtain ⟨fuel, hf⟩ := h1
    exact open_reqs (by simpa [Value.cells] using hf)
  obtain ⟨rq, rfl⟩ := open_one (hval 2 45 v2 rfl rfl) h2
  obtain ⟨page, rfl⟩ : ∃ n, v3 = .int .i64 n := okWide_int Yba.underlying3 (hval 3 3 v3 rfl rfl)
  obtain ⟨ab, rfl⟩ : ∃ b, v4 = .bool b := okWide_bool Yba.underlying4 (hval 4 4 v4 rfl rfl)
  obtain ⟨po, rfl⟩ : ∃ b, v5 = .bool b := okWide_bool Yba.underlying4 (hval 5 4 v5 rfl rfl)
  clear hA0 hval0
  refine (walk a0 a1 n0 n1 c0 c1 hr qr rq page ab po W l0 l1 s0 s1 m0 m1).mono fun e W' ⟨he, bel⟩ => ?_
  subst he
  have hB := trodAll_cons_mk (Below.trod laidOut5 (by kernel_rfl) (of_decide_eq_true (by kernel_rfl)) h0 bel lt0) (trodAll_cons_mk (Below.trod laidOut5 (by kernel_rfl) (of_decide_eq_true (by kernel_rfl)) h1 bel lt1) (trodAll_cons_mk (Below.trod laidOut5 (by kernel_rfl) (of_decide_eq_true (by kernel_rfl)) h2 bel lt2) (trodAll_cons_mk (Below.trod laidOut5 (by kernel_rfl) (of_decide_eq_true (by kernel_rfl)) h3 bel lt3) (trodAll_cons_mk (Below.trod laidOut5 (by kernel_rfl) (of_decide_eq_true (by kernel_rfl)) h4 bel lt4) (trodAll_cons_mk (Below.trod laidOut5 (by kernel_rfl) (of_decide_eq_true (by kernel_rfl)) h5 bel lt5) trodAll_mk0)))))
  exact ⟨_, rfl, _, _, _, [], _, [], hW', trodAll_mk1 (shut_bool Yba.underlying4 _), hB, rfl, bel.frame _, fun h => by cases h⟩

theorem over : Rows.lawS3250CAcquireRow.holds Yba.pinned (OpenSpec.ofChange Rows.lawS3250CAcquireSpec) :=
  OpenClaim.holds_of_wide 5 Yba.f5 rfl rfl rfl rfl rfl rfl rfl ⟨rfl, rfl, rfl, rfl, rfl⟩ rfl rfl rfl rfl rfl (by kernel_rfl) Yba.func5 (by kernel_rfl)
    (of_decide_eq_true (by kernel_rfl)) (by unfold Func.isWrapper; first | (rw [if_pos (by decide +kernel)]; kernel_rfl) | (rw [if_neg (by decide +kernel)]; exact ⟨rfl, rfl⟩))
    (fun os started H enc _ => lifted os started H enc)

/-- THE STATEMENT -/
theorem proved : Rows.LawS3250CAcquireSaid := over
end Go.Proofs.Ybulkboha.LawAcquire
