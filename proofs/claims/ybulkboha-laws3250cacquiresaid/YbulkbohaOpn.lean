import Derived.Test.YbulkbohaAft
import Derived.ProofKit
import Derived.ChangeOld
import Derived.Deep.SlicePairs
import Derived.Lib.SmallJoins
namespace Go.Proofs.Ybulkboha
open Go.ChangeShapes Go.WideShapes Go.ChangeAt Go.RowKit
set_option linter.unusedVariables false

theorem own5 : ownKnob Yba.prog.godebug = none := by kernel_rfl
theorem laidOut5 : laidOutB Yba.prog = true := by kernel_rfl

set_option maxRecDepth 100000 in
set_option maxHeartbeats 1000000 in
theorem law_long0 (a0 a1 : Option Addr) (n0 n1 c0 c1 : Nat) (rq : Req) (page : Int) (ab po : Bool) (w : World) (h0 : 1024 < n0) (hm : n0 ≤ maxLen) :
    Calls Yba.prog 5 #[.slice a0 n0 c0, .slice a1 n1 c1, .agg (reqArr rq), .int .i64 page, .bool ab, .bool po] w fun e w' => e = .returned (.bool true) ∧ Below w.heap.size w w' := by
  have hd0 : decide ((n0 : Int) > 1024) = true := decide_eq_true (by omega)
  go_enter Yba.func5, Yba.ntmps5
  go_wp2
  go_ret
  exact ⟨rfl, (Below.refl _ _).alloc (Nat.le_refl _) _⟩
set_option maxRecDepth 100000 in
set_option maxHeartbeats 1000000 in
theorem law_long1 (a0 a1 : Option Addr) (n0 n1 c0 c1 : Nat) (rq : Req) (page : Int) (ab po : Bool) (w : World) (h0 : n0 ≤ 1024) (h1 : 1024 < n1) (hm : n1 ≤ maxLen) :
    Calls Yba.prog 5 #[.slice a0 n0 c0, .slice a1 n1 c1, .agg (reqArr rq), .int .i64 page, .bool ab, .bool po] w fun e w' => e = .returned (.bool true) ∧ Below w.heap.size w w' := by
  have hd0 : decide ((n0 : Int) > 1024) = false := decide_eq_false (by omega)
  have hd1 : decide ((n1 : Int) > 1024) = true := decide_eq_true (by omega)
  go_enter Yba.func5, Yba.ntmps5
  go_wp2
  go_ret
  exact ⟨rfl, (Below.refl _ _).alloc (Nat.le_refl _) _⟩

section
variable {H : Type} {enc : TypeId × Value → H} {w : World} {base : Nat} {spare : Nat → Bool} {held : Bool}

set_option maxRecDepth 100000 in
/-- a drawn request, from its cells. -/
theorem open_req {fuel : Nat} {cs : List Value} {x : DataW H × List MemPlace} (h : DataW.trod enc Yba.prog w base spare held fuel 45 cs = some x) : ∃ q : Req, cs = (reqArr q).toList := by
  obtain ⟨xs, n, _, _, hl, hlen, hf⟩ := DataW.trod_struct Yba.underlying45 h
  have hc : Yba.prog.cellsOf 45 = 6 := by kernel_rfl
  rw [hc] at hl
  have k42 : Yba.prog.cellsOf 42 = 1 := by kernel_rfl
  have k43 : Yba.prog.cellsOf 43 = 1 := by kernel_rfl
  have k4 : Yba.prog.cellsOf 4 = 1 := by kernel_rfl
  have k5 : Yba.prog.cellsOf 5 = 1 := by kernel_rfl
  match xs, hlen, cs, hl with
  | [y0, y1, y2, y3, y4, y5], _, [v0, v1, v2, v3, v4, v5], _ =>
    have g0 := hf 0 _ rfl
    have g1 := hf 1 _ rfl
    have g2 := hf 2 _ rfl
    have g3 := hf 3 _ rfl
    have g4 := hf 4 _ rfl
    have g5 := hf 5 _ rfl
    simp [k42, k43, k4, k5] at g0 g1 g2 g3 g4 g5
    obtain ⟨a0, e0, _⟩ := DataW.trod_int Yba.underlying42 g0
    obtain ⟨a1, e1, _⟩ := DataW.trod_int Yba.underlying42 g1
    obtain ⟨a2, e2, _⟩ := DataW.trod_int Yba.underlying43 g2
    obtain ⟨a3, e3, _⟩ := DataW.trod_bool Yba.underlying4 g3
    obtain ⟨a4, e4, _⟩ := DataW.trod_int Yba.underlying5 g4
    obtain ⟨a5, e5, _⟩ := DataW.trod_bool Yba.underlying4 g5
    simp at e0 e1 e2 e3 e4 e5
    exact ⟨⟨a0, a1, a2, a3, a4, a5⟩, by simp [reqArr, e0, e1, e2, e3, e4, e5]⟩

set_option maxRecDepth 100000 in
theorem open_one {r : Reach} {b0 : Nat} {v : Value} {d : DataW H} {p : List MemPlace} (hv : Value.okWide Yba.prog w r b0 45 v) (h : DataW.Trod enc Yba.prog w base spare held 45 v d p) : ∃ q : Req, v = .agg (reqArr q) := by
  obtain ⟨cs, rfl, _⟩ := okWide_struct Yba.underlying45 hv
  obtain ⟨fuel, hf⟩ := h
  obtain ⟨q, hq⟩ := open_req hf
  refine ⟨q, ?_⟩
  have : cs.toList = (reqArr q).toList := by simpa [Value.cells] using hq
  rw [Array.toList_inj.1 this]

/-- as many requests as are wanted. -/
theorem choose_reqs {p : Nat → Req → Prop} : ∀ n, (∀ i, i < n → ∃ y, p i y) → ∃ xs : List Req, xs.length = n ∧ ∀ i q, xs[i]? = some q → p i q
  | 0, _ => ⟨[], rfl, fun i q hi => by simp at hi⟩
  | n + 1, h => by
    obtain ⟨xs, hl, hx⟩ := choose_reqs n (fun i hi => h i (by omega))
    obtain ⟨y, hy⟩ := h n (by omega)
    refine ⟨xs ++ [y], by simp [hl], fun i q hi => ?_⟩
    by_cases hin : i < n
    · rw [List.getElem?_append_left (by omega)] at hi; exact hx i q hi
    · have hlt : i < (xs ++ [y]).length := (List.getElem?_eq_some_iff.1 hi).1
      simp [hl] at hlt
      have : i = n := by omega
      subst this
      rw [List.getElem?_append_right (by omega)] at hi
      simp [hl] at hi
      rw [← hi]; exact hy

set_option maxRecDepth 100000 in
theorem open_reqs {a0 : Option Addr} {len cap fuel : Nat} {x : DataW H × List MemPlace} (h : DataW.trod enc Yba.prog w base spare held fuel 41 [.slice a0 len cap] = some x) :
    ∃ rs : List Req, rs.length = len ∧ SrcR w a0 rs ∧ len ≤ maxLen := by
  rcases Go.Deep.open_slice Yba.underlying41 h with ⟨hcs, _⟩ | ⟨a, l, c, m, n, D, Pl, hcs, _, hl, hm, hmm, _, hx⟩
  · simp at hcs
    obtain ⟨rfl, rfl, rfl⟩ := hcs
    exact ⟨[], rfl, .inl rfl, Nat.zero_le _⟩
  · simp at hcs
    obtain ⟨rfl, rfl, rfl⟩ := hcs
    have hlm : len ≤ m := by rw [hmm]; split <;> omega
    have hc : Yba.prog.cellsOf 45 = 6 := by kernel_rfl
    have each : ∀ i, i < len → ∃ q : Req, ∀ j v, (reqArr q)[j]? = some v → w.cell? (a.add (i * 6 + j)) = some v := by
      intro i hi
      obtain ⟨cs', h1, h2⟩ := hx i (by omega)
      obtain ⟨q, rfl⟩ := open_req h2
      rw [hc] at h1
      obtain ⟨_, hlen, hcell⟩ := World.cells?_some h1
      refine ⟨q, fun j v hj => ?_⟩
      have hj6 : j < 6 := by
        have := (Array.getElem?_eq_some_iff.1 hj).1
        simpa [reqArr] using this
      have e := hcell j (by omega)
      rw [Go.Deep.add_add] at e
      rw [e]
      simpa using hj
    obtain ⟨rs, hrl, hrr⟩ := choose_reqs len each
    refine ⟨rs, hrl, ?_, by omega⟩
    by_cases h0 : len = 0
    · exact .inl (List.eq_nil_of_length_eq_zero (by omega))
    · obtain ⟨b, off, spot⟩ := a
      have hspot : spot = none := by
        have := hrr 0 rs[0] (List.getElem?_eq_getElem (by omega)) 0 _ rfl
        simpa [Addr.add] using World.cell?_spot this
      subst hspot
      refine .inr ⟨b, off, rfl, fun k q hk j v hj => ?_⟩
      have := hrr k q hk j v hj
      rw [Addr.add_lit] at this
      rw [Nat.add_assoc]
      exact this
end
end Go.Proofs.Ybulkboha
