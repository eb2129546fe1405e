import Derived.Test.YbulkbohaEnd
namespace Go.Proofs.Ybulkboha
open Go.RowKit
set_option linter.unusedVariables false

theorem site_flags {w : World} {sb hb mb : Nat} {fr ct : Value} {cf ac la bo se en ot : Int} (S : Site w sb hb mb fr cf ct ac la bo se en ot) : w.cell? ⟨sb, 7, none⟩ = some (.bool false) ∧ w.cell? ⟨sb, 12, none⟩ = some (.bool false) := by
  constructor <;> (rw [cell_of_row _ _ _ _ _ _ S.site]; rfl)

set_option maxRecDepth 100000 in
set_option maxHeartbeats 1000000 in
/-- a waiting cohort is doomed. -/
theorem abort_wait (sb c tb cb hb mb : Nat) (fr ct loans : Value) (cf ac la bo se en ot : Int) (lend : Bool) (w : World) (L : Lies w sb c tb cb 2 lend loans) (S : Site w sb hb mb fr cf ct ac la bo se en ot)
    (hc : c ≠ hb) (hs : c ≠ sb) (htc : tb ≠ c) (hcc : cb ≠ c) :
    Calls Yba.prog 43 #[.pointer (some ⟨c, 0, none⟩)] w fun e w' => e = .returned (.tuple #[]) ∧ Chg (· = c) w w' ∧ Lies w' sb c tb cb 3 lend loans ∧ Site w' sb hb mb fr cf ct ac la bo se en ot := by
  have HL : Hid (Lies w sb c tb cb 2 lend loans) := L
  have HS : Hid (Site w sb hb mb fr cf ct ac la bo se en ot) := S
  have c3 : w.cell? ⟨c, 3, none⟩ = some (.int .u8 2) := by rw [cell_of_row _ _ _ _ _ _ L.coh]; rfl
  have HA : Hid (Calls Yba.prog 38 #[.pointer (some ⟨c, 0, none⟩)] w fun r w' => r = .returned (.bool true) ∧ w' = w) := abort38 ⟨c, 0, (0, 0, 0), 2, lend⟩ w c3
  clear L S
  go_enter Yba.func43, Yba.ntmps43
  go_wp2_with fail
  with_reducible refine HA.out.mono ?_
  rintro e w1 ⟨rfl, rfl⟩
  go_wp2_with fail
  with_reducible refine (abandon_is sb c tb cb 2 lend loans _ HL.out).mono ?_
  rintro e w2 ⟨rfl, hb2⟩
  have HL2 : Hid (Lies w2 sb c tb cb 2 lend loans) := HL.out.below hb2
  have HS2 : Hid (Site w2 sb hb mb fr cf ct ac la bo se en ot) := HS.out.below hb2
  have d3 : w2.cell? ⟨c, 3, none⟩ = some (.int .u8 2) := by rw [cell_of_row _ _ _ _ _ _ HL2.out.coh]; rfl
  have d0 : w2.cell? ⟨c, 0, none⟩ = some (.pointer (some ⟨sb, 0, none⟩)) := by rw [cell_of_row _ _ _ _ _ _ HL2.out.coh]; rfl
  have f3 : w2.frozen? ⟨c, 3, none⟩ = false := frozen_of_row w2 c 3 _ 83 HL2.out.coh
  obtain ⟨s7, s12⟩ := site_flags HS2.out
  clear c3
  go_wp2
  refine bodyPost_ret (results_none rfl _ _ _) rfl ?_
  exact ⟨rfl, (Chg.of_below hb2).trans (chg_set w2 c 3 _), HL2.out.phase 3 htc hcc, HS2.out.chg (chg_set w2 c 3 _) (fun h => hs h.symm) (fun h => hc h.symm)⟩

set_option maxRecDepth 100000 in
set_option maxHeartbeats 1000000 in
/-- a cohort that works is ended. -/
theorem abort_work (sb c tb cb hb mb : Nat) (fr ct loans : Value) (ph cf ac la bo se en ot : Int) (lend : Bool) (w : World) (L : Lies w sb c tb cb ph lend loans) (S : Site w sb hb mb fr cf ct ac la bo se en ot)
    (hc : c ≠ hb) (ht : tb ≠ hb) (hcb : cb ≠ hb) (hs : c ≠ sb) (htc : tb ≠ c) (hcc : cb ≠ c) (hab : abortP ph = true) (hp : ph ≠ 2) (h1 : 0 ≤ en) (h2 : en < 100000) (h3 : 0 ≤ se) (h4 : se < 100000) :
    Calls Yba.prog 43 #[.pointer (some ⟨c, 0, none⟩)] w fun e w' => e = .returned (.tuple #[]) ∧ Chg (fun k => k = c ∨ k = hb) w w' ∧ Lies w' sb c tb cb 11 lend loans ∧ Site w' sb hb mb fr cf ct ac la bo (se + 1) (en + 1) ot := by
  have HL : Hid (Lies w sb c tb cb ph lend loans) := L
  have HS : Hid (Site w sb hb mb fr cf ct ac la bo se en ot) := S
  have c3 : w.cell? ⟨c, 3, none⟩ = some (.int .u8 ph) := by rw [cell_of_row _ _ _ _ _ _ L.coh]; rfl
  have HA0 := abort38 ⟨c, 0, (0, 0, 0), ph, lend⟩ w c3
  simp only [hab] at HA0
  have HA : Hid (Calls Yba.prog 38 #[.pointer (some ⟨c, 0, none⟩)] w fun r w' => r = .returned (.bool true) ∧ w' = w) := HA0
  have hp2 : (ph == 2) = false := by simpa using hp
  clear L S HA0 hab
  go_enter Yba.func43, Yba.ntmps43
  go_wp2_with fail
  with_reducible refine HA.out.mono ?_
  rintro e w1 ⟨rfl, rfl⟩
  go_wp2_with fail
  with_reducible refine (abandon_is sb c tb cb ph lend loans _ HL.out).mono ?_
  rintro e w2 ⟨rfl, hb2⟩
  have HL2 : Hid (Lies w2 sb c tb cb ph lend loans) := HL.out.below hb2
  have HS2 : Hid (Site w2 sb hb mb fr cf ct ac la bo se en ot) := HS.out.below hb2
  have d3 : w2.cell? ⟨c, 3, none⟩ = some (.int .u8 ph) := by rw [cell_of_row _ _ _ _ _ _ HL2.out.coh]; rfl
  clear c3
  go_wp2_with fail
  with_reducible refine (reply_is sb c tb cb hb mb fr ct loans 3 ph cf ac la bo se en ot lend w2 HL2.out HS2.out hc ht hcb h3 h4).mono ?_
  rintro e w3 ⟨rfl, hc3, hS3⟩
  have HL3 : Hid (Lies w3 sb c tb cb ph lend loans) := by
    obtain ⟨dl, ar, nu, htx⟩ := HL2.out.txn
    exact ⟨hc3.heap HL2.out.coh hc, ⟨dl, ar, nu, hc3.heap htx ht⟩, hc3.heap HL2.out.cohs hcb⟩
  have HS3 : Hid (Site w3 sb hb mb fr cf ct ac la bo (se + 1) en ot) := hS3
  have HC3 : Hid (Chg (· = hb) w2 w3) := hc3
  clear hc3 hS3 d3
  go_wp2_with fail
  with_reducible refine (end_is sb c tb cb hb mb fr ct loans 3 ph cf ac la bo (se + 1) en ot lend w3 HL3.out HS3.out hc ht hcb hs htc hcc h1 h2).mono ?_
  rintro e w4 ⟨rfl, hc4, hL4, hS4⟩
  go_wp2
  go_end0
  exact ⟨rfl, ((Chg.of_below hb2).trans (HC3.out.mono (fun k _ h => .inr h))).trans hc4, hL4, hS4⟩
end Go.Proofs.Ybulkboha
