import Derived.Test.YbulkbohaIdx
import Derived.Laws.StructEq
namespace Go.Proofs.Ybulkboha
open Go.RowKit
set_option linter.unusedVariables false

theorem equal_same (a d : Nat) (w : World) : (Op.equalIn (d + 1) 74 (.pointer (some ⟨a, 0, none⟩)) (.pointer (some ⟨a, 0, none⟩))).run Yba.prog w = .ok true w := by
  obtain ⟨j, hj, hs⟩ := Option.map_eq_some_iff.1 Yba.info83
  simp [Op.equalIn, run_underlying Yba.underlying74, sizeOf, typeInfo, hj, run_sameAddr_same]

set_option maxRecDepth 100000 in
set_option maxHeartbeats 1000000 in
/-- two slices that read alike: zzs3250ceq says so. -/
theorem eq_is (av bv : Value) (xs : List Ent) (w : World) (ha : Reqs w av xs) (hb : Reqs w bv xs) (hlen : xs.length ≤ 4096) :
    Calls Yba.prog 23 #[av, bv] w fun e w' => e = .returned (.bool true) ∧ ∃ k, w' = w.drewN k := by
  obtain ⟨ao, cap, hvE⟩ := ha.len
  obtain ⟨bo, cap2, hvE2⟩ := hb.len
  have HX : Hid (Reqs w av xs) := ha
  have HY : Hid (Reqs w bv xs) := hb
  clear ha hb
  subst hvE
  subst hvE2
  generalize hgn : xs.length = n at *
  have HN : Hid (xs.length = n) := hgn
  go_enter Yba.func23, Yba.ntmps23
  go_wp2
  go_loopw [13] (fun i wr => ∃ k q : Nat, k ≤ n ∧ i = .int .i64 k ∧ wr = w.drewN q) (fun i _ => n - (intOf i).toNat)
  case atStart => exact ⟨0, 0, by omega, rfl, rfl⟩
  case round =>
    obtain ⟨k, q, hk, rfl, rfl⟩ := hrel
    by_cases hlt : k < n
    · obtain ⟨e, he⟩ : ∃ e, xs[k]? = some e := ⟨_, List.getElem?_eq_getElem (by have := HN.out; omega)⟩
      obtain ⟨b, cap', hE, r0, r1⟩ := HX.out.cells he
      have hao : ao = some ⟨b, 0, none⟩ := by cases hE; rfl
      obtain ⟨b2, cap2', hE2, s0, s1⟩ := HY.out.cells he
      have hbo : bo = some ⟨b2, 0, none⟩ := by cases hE2; rfl
      clear hE hE2
      subst hao
      subst hbo
      have heq := equal_same e.c
      go_upto_region 6 with fail
      go_quiet (fail)
      go_wp2
      go_roundw
      case rel => exact ⟨k + 1, q + nq, by omega, by go_num, by simp⟩
      case measure => simp [intOf]; omega
    · go_wp2
      go_ret
      exact ⟨rfl, q, rfl⟩
end Go.Proofs.Ybulkboha
