import Derived.Test.YbulkbofyRows
import Derived.Test.YbulkbofyAllowWalks
import Derived.ProofKit
import Derived.ChangeOld
namespace Go.Proofs.Ybulkbofy.LawAllowance
open Go.ChangeShapes Go.WideShapes Go.ChangeAt Go.RowKit

theorem own : ownKnob Yba.prog.godebug = none := by kernel_rfl

set_option maxRecDepth 100000 in
theorem lifted (os : Os) (started : os.Started) (H : Type) (enc : TypeId × Value → H) :
    ReturnsInHanded {} Yba.checked os 4 .any (Rows.lawS3248CAllowanceSpec.pre6 enc Yba.prog Yba.f4 Rows.lawS3248CAllowanceRow.domain false) (Rows.lawS3248CAllowanceSpec.post enc Yba.prog Yba.f4 false true false false) := by
  refine returnsInHanded_of_change (C := Yba.checked) own started (by kernel_rfl) Yba.func4
    (ChangeSpec.witness6 (enc := enc) (C := Yba.checked) false ⟨#[], #[.float .f64 0, .int .i64 0, .int .u32 0], []⟩ 8 (by kernel_rfl) (by kernel_rfl) (by kernel_rfl) (by kernel_rfl)) ?_
  intro W base args ds gs before hval0 hW hcnd _
  have hval : ∀ (j : Nat) t v, Yba.f4.params[j]? = some t → args[j]? = some v → Value.okWide Yba.prog W .any base t v := hval0
  have hW' := hW
  obtain ⟨p, q, hA0, hV, rfl, hfz, hnd⟩ := hW
  have hA : DataW.TrodAll enc Yba.prog W 0 (fun _ => true) true Yba.f4.params.toList args.toList ds p := hA0
  rw [Yba.params4] at hA hval
  obtain ⟨v0, v1, v2, d0, d1, d2, p0, p1, p2, rfl, rfl, rfl, h0, h1, h2⟩ := trodAll_three hA
  obtain ⟨rfl, rfl⟩ := trodVars_none hV
  obtain ⟨a, rfl, rfl, rfl, wa⟩ := open_float Yba.underlying22 (hval 0 22 v0 rfl rfl) h0
  obtain ⟨n, rfl, rfl, rfl, wn⟩ := open_int Yba.underlying3 (hval 1 3 v1 rfl rfl) h1
  obtain ⟨z, rfl, rfl, rfl, wz⟩ := open_int Yba.underlying28 (hval 2 28 v2 rfl rfl) h2
  clear hA0 hval0
  simp only [List.append_nil] at hW'
  have la : a < 2 ^ 64 := by simpa [Lit.wf] using wa
  obtain ⟨m, rfl, lm⟩ : ∃ m : Nat, z = (m : Int) ∧ m < 2 ^ 32 := by
    have hb : 0 ≤ z ∧ z ≤ 4294967295 := by simpa [Lit.wf, IntKind.min, IntKind.max, IntKind.bits, IntKind.signed] using wz
    exact ⟨z.toNat, by omega, by omega⟩
  refine (allow_any a m n W lm la).mono fun e W' ⟨he, k, hw⟩ => ?_
  subst he; subst hw
  exact ⟨_, rfl, ChangeSpec.post_alike (post_of_same (pa := []) (pv := []) hW' (fun _ _ _ => trodAll_mk1 (shut_bool Yba.underlying4 _)) (fun sp _ => trodAll_mk3 (shut_float Yba.underlying22 wa) (shut_int Yba.underlying3 wn) (shut_int Yba.underlying28 wz)) (fun _ _ => rfl) rfl
    (World.keptBut_refl _ _) (fun _ => rfl) (ok_one (by kernel_rfl) rfl (okWide_bool_mk Yba.underlying4 _))) (World.drewN_alike _ _)⟩

theorem over : Rows.lawS3248CAllowanceRow.holds Yba.pinned (OpenSpec.ofChange Rows.lawS3248CAllowanceSpec) :=
  OpenClaim.holds_of_wide 4 Yba.f4 rfl rfl rfl rfl rfl rfl rfl ⟨rfl, rfl, rfl, rfl, rfl⟩ rfl rfl rfl rfl rfl (by kernel_rfl) Yba.func4 (by kernel_rfl)
    (of_decide_eq_true (by kernel_rfl)) (by unfold Func.isWrapper; first | (rw [if_pos (by decide +kernel)]; kernel_rfl) | (rw [if_neg (by decide +kernel)]; exact ⟨rfl, rfl⟩))
    (fun os started H enc _ => lifted os started H enc)

/-- THE STATEMENT -/
theorem proved : Rows.LawS3248CAllowanceSaid := over
end Go.Proofs.Ybulkbofy.LawAllowance
