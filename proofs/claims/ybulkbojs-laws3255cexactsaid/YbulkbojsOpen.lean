import Derived.Test.YbulkbojsAtStart
import Derived.WideShapes
import Derived.ChangeArms
import Derived.ProofKit
namespace Go.Proofs.Ybulkbojs
open Go.ChangeShapes Go.WideShapes Go.ChangeAt Go.RowKit
set_option linter.unusedVariables false

theorem array5 {α : Type} {cs : Array α} (h : cs.size = 5) : ∃ c0 c1 c2 c3 c4, cs = #[c0, c1, c2, c3, c4] := by
  obtain ⟨l⟩ := cs
  match l, h with
  | [c0, c1, c2, c3, c4], _ => exact ⟨c0, c1, c2, c3, c4, rfl⟩
theorem cells75 : Yba.prog.cellsOf 75 = 5 := by kernel_rfl

variable {H : Type} {enc : TypeId × Value → H} {w : World} {base : Nat} {spare : Nat → Bool} {held : Bool}

theorem field_int {fuel : Nat} {t : TypeId} {k : IntKind} {c : Value} {x : Option (DataW H × List MemPlace)} (ht : Yba.prog.underlying t = some (.int k)) (hx : x.isSome = true)
    (h : DataW.trod enc Yba.prog w base spare held fuel t [c] = x) : ∃ n, c = .int k n ∧ (Lit.int k n).wf = true := by
  obtain ⟨y, rfl⟩ := Option.isSome_iff_exists.1 hx
  obtain ⟨n, h1, _, h2⟩ := DataW.trod_int ht h
  exact ⟨n, by simpa using h1, h2⟩
theorem wf_i64 {n : Int} (h : (Lit.int .i64 n).wf = true) : -9223372036854775808 ≤ n ∧ n ≤ 9223372036854775807 := by
  simpa [Lit.wf, IntKind.min, IntKind.max, IntKind.bits, IntKind.signed] using h

set_option maxRecDepth 100000 in
/-- the argument of both laws, opened. -/
theorem open_arg {r : Reach} {b0 : Nat} {v : Value} {d : DataW H} {p : List MemPlace} (hv : Value.okWide Yba.prog w r b0 75 v) (h : DataW.Trod enc Yba.prog w base spare held 75 v d p) :
    ∃ clock perf cpu start stamp : Int, v = .agg #[.int .u32 clock, .int .i64 perf, .int .u32 cpu, .int .i64 start, .int .i64 stamp] ∧
      (-9223372036854775808 ≤ perf ∧ perf ≤ 9223372036854775807) ∧ (-9223372036854775808 ≤ start ∧ start ≤ 9223372036854775807) ∧ (-9223372036854775808 ≤ stamp ∧ stamp ≤ 9223372036854775807) := by
  obtain ⟨cs, rfl, hsz⟩ := okWide_struct Yba.underlying75 hv
  obtain ⟨c0, c1, c2, c3, c4, rfl⟩ := array5 (hsz.trans cells75)
  obtain ⟨fuel, hf⟩ := h
  obtain ⟨xs, n, _, _, _, hlen, hfs⟩ := DataW.trod_struct Yba.underlying75 hf
  have hl : xs.length = 5 := hlen
  have t0 := hfs 0 _ rfl
  have t1 := hfs 1 _ rfl
  have t2 := hfs 2 _ rfl
  have t3 := hfs 3 _ rfl
  have t4 := hfs 4 _ rfl
  simp only [Value.cells] at t0 t1 t2 t3 t4
  obtain ⟨z0, rfl, _⟩ := field_int (c := c0) Yba.underlying33 (by simp [hl]) t0
  obtain ⟨z1, rfl, w1⟩ := field_int (c := c1) Yba.underlying2 (by simp [hl]) t1
  obtain ⟨z2, rfl, _⟩ := field_int (c := c2) Yba.underlying33 (by simp [hl]) t2
  obtain ⟨z3, rfl, w3⟩ := field_int (c := c3) Yba.underlying2 (by simp [hl]) t3
  obtain ⟨z4, rfl, w4⟩ := field_int (c := c4) Yba.underlying2 (by simp [hl]) t4
  exact ⟨z0, z1, z2, z3, z4, rfl, wf_i64 w1, wf_i64 w3, wf_i64 w4⟩
end Go.Proofs.Ybulkbojs
