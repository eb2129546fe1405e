import Derived.Test.YbulkbohaApp
namespace Go.Proofs.Ybulkboha
open Go.RowKit
set_option linter.unusedVariables false

/-- a request as the lock table sees it: its cohort's block, its mode, its priority, phase, lendOK. -/
structure Ent where
  c : Nat
  m : Int
  p : Int × Int × Int
  ph : Int
  lend : Bool

/-- what is read of a cohort. -/
structure Coh (w : World) (e : Ent) : Prop where
  tx : ∃ tb : Nat, w.cell? ⟨e.c, 1, none⟩ = some (.pointer (some ⟨tb, 0, none⟩)) ∧ w.cell? ⟨tb, 1, none⟩ = some (.int .i64 e.p.2.2) ∧ w.cell? ⟨tb, 2, none⟩ = some (.int .i64 e.p.2.1) ∧ w.cell? ⟨tb, 3, none⟩ = some (.int .i64 e.p.1)
  phase : w.cell? ⟨e.c, 3, none⟩ = some (.int .u8 e.ph)
  lends : w.cell? ⟨e.c, 11, none⟩ = some (.bool e.lend)
  due : w.cell? ⟨e.c, 13, none⟩ = some (.bool false)

theorem _root_.Go.RowKit.Below.keep {w w' : World} (hb : Below w.heap.size w w') {p : Addr} {v : Value} (h : w.cell? p = some v) : w'.cell? p = some v := (hb.cell (block_lt_of_cell h)).trans h
theorem Coh.below {w w' : World} {e : Ent} (h : Coh w e) (k : Below w.heap.size w w') : Coh w' e := by
  obtain ⟨tb, h0, h1, h2, h3⟩ := h.tx
  exact ⟨⟨tb, k.keep h0, k.keep h1, k.keep h2, k.keep h3⟩, k.keep h.phase, k.keep h.lends, k.keep h.due⟩

theorem conflicts_is (a b : Value) (m m' : Int) (w : World) (ha : a.oneCell' = true) (hb : b.oneCell' = true) :
    Calls Yba.prog 29 #[.agg #[a, .int .u8 m], .agg #[b, .int .u8 m']] w fun e w' => e = .returned (.bool (m == 2 || m' == 2)) ∧ Below w.heap.size w w' := by
  have hb : ∀ A B, Below w.heap.size w ((w.alloc A).alloc B) := fun A B => ((Below.refl _ _).alloc (Nat.le_refl _) _).alloc (by simp) _
  by_cases h : m = 2
  · subst h
    go_enter Yba.func29, Yba.ntmps29
    go_wp2
    go_ret
    exact ⟨ret_bool (by simp), hb _ _⟩
  · have e1 : (m == 2) = false := by simpa using h
    go_enter Yba.func29, Yba.ntmps29
    go_wp2
    go_ret
    exact ⟨ret_bool (by simp [e1]), hb _ _⟩

theorem lends37 (e : Ent) (w : World) (h : Coh w e) :
    Calls Yba.prog 37 #[.pointer (some ⟨e.c, 0, none⟩)] w fun r w' => r = .returned (.bool (lendsP e.ph e.lend)) ∧ w' = w := by
  obtain ⟨c, m, p, ph, lend⟩ := e
  have h3 := h.phase
  have h11 := h.lends
  have h13 := h.due
  clear h
  simp only at h3 h11 h13 ⊢
  unfold lendsP
  by_cases h5 : ph = 5
  · subst h5
    go_enter Yba.func37, Yba.ntmps37
    go_wp2
    go_ret
    exact ⟨ret_bool (by simp), rfl⟩
  have e5 : (ph == 5) = false := by simpa using h5
  by_cases h8 : ph = 8
  · subst h8
    go_enter Yba.func37, Yba.ntmps37
    go_wp2
    go_ret
    exact ⟨ret_bool (by simp), rfl⟩
  have e8 : (ph == 8) = false := by simpa using h8
  by_cases h7 : ph = 7
  · subst h7
    cases lend
    · go_enter Yba.func37, Yba.ntmps37
      go_wp2
      go_ret
      exact ⟨ret_bool (by simp), rfl⟩
    · go_enter Yba.func37, Yba.ntmps37
      go_wp2
      go_ret
      exact ⟨ret_bool (by simp), rfl⟩
  have e7 : (ph == 7) = false := by simpa using h7
  go_enter Yba.func37, Yba.ntmps37
  go_wp2
  go_ret
  exact ⟨ret_bool (by simp [e5, e7, e8]), rfl⟩

theorem abort38 (e : Ent) (w : World) (h3 : w.cell? ⟨e.c, 3, none⟩ = some (.int .u8 e.ph)) :
    Calls Yba.prog 38 #[.pointer (some ⟨e.c, 0, none⟩)] w fun r w' => r = .returned (.bool (abortP e.ph)) ∧ w' = w := by
  obtain ⟨c, m, p, ph, lend⟩ := e
  simp only at h3 ⊢
  unfold abortP
  by_cases h5 : ph = 0
  · subst h5
    go_enter Yba.func38, Yba.ntmps38
    go_wp2
    go_ret
    exact ⟨ret_bool (by simp), rfl⟩
  have e5 : (ph == 0) = false := by simpa using h5
  by_cases h8 : ph = 1
  · subst h8
    go_enter Yba.func38, Yba.ntmps38
    go_wp2
    go_ret
    exact ⟨ret_bool (by simp), rfl⟩
  have e8 : (ph == 1) = false := by simpa using h8
  go_enter Yba.func38, Yba.ntmps38
  go_wp2
  go_ret
  exact ⟨ret_bool (by simp [e5, e8]), rfl⟩

theorem out18 (a b : Ent) (w : World) (ha : Coh w a) (hb : Coh w b) :
    Calls Yba.prog 18 #[.pointer (some ⟨a.c, 0, none⟩), .pointer (some ⟨b.c, 0, none⟩)] w fun e w' => e = .returned (.bool (rank a.p b.p)) ∧ Below w.heap.size w w' := by
  obtain ⟨ta, a0, a1, a2, a3⟩ := ha.tx
  obtain ⟨tb, b0, b1, b2, b3⟩ := hb.tx
  exact out_raw a.c b.c ta tb _ _ _ _ _ _ w a0 b0 a1 a2 a3 b1 b2 b3
theorem outranks30 (a b : Ent) (m m' : Int) (w : World) (ha : Coh w a) (hb : Coh w b) :
    Calls Yba.prog 30 #[.agg #[.pointer (some ⟨a.c, 0, none⟩), .int .u8 m], .agg #[.pointer (some ⟨b.c, 0, none⟩), .int .u8 m']] w fun e w' => e = .returned (.bool (rank a.p b.p)) ∧ Below w.heap.size w w' := by
  obtain ⟨ta, a0, a1, a2, a3⟩ := ha.tx
  obtain ⟨tb, b0, b1, b2, b3⟩ := hb.tx
  exact outranks_raw a.c b.c ta tb m m' _ _ _ _ _ _ w a0 b0 a1 a2 a3 b1 b2 b3
end Go.Proofs.Ybulkboha
