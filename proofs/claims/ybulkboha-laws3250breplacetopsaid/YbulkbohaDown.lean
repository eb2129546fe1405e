import Derived.Test.YbulkbohaMem
import Derived.Deep.RegionHeld3
import Derived.Deep.DeepCutAuto
import Derived.Deep.QuietTactic
import Derived.BigQuiet
namespace Go.Proofs.Ybulkboha
open Go.RowKit
set_option linter.unusedVariables false

theorem val_bool {a b : Bool} (h : a = b) : Value.bool a = .bool b := by rw [h]
theorem val_int {k : IntKind} {a b : Int} (h : a = b) : Value.int k a = .int k b := by rw [h]

set_option maxHeartbeats 1000000 in
theorem down_any (b n cap : Nat) (xs rest : List (Int × Int)) (s : Int × Int) (i0 : Nat) (w : World) (hb : b < w.heap.size) (hn : xs.length = n) (hlim : n ≤ 4096) (hi : i0 < n)
    (hrow : RowS w b (xs ++ rest)) (hh : HeapFrom (i0 + 1) xs) :
    Calls Yba.prog 12 #[.slice (some ⟨b, 0, none⟩) n cap, schedV s, .int .i64 i0] w fun e w' =>
      e = .returned (.tuple #[]) ∧ ∃ ys, RowS w' b (ys ++ rest) ∧ ys.Perm (xs.set i0 s) ∧ HeapFrom i0 ys ∧ Oth b w.heap.size w w' := by
  have HR : Hid (RowS w b (xs ++ rest)) := hrow
  have HH : Hid (HeapFrom (i0 + 1) xs) := hh
  have HN : Hid (xs.length = n) := hn
  clear hrow hh hn
  obtain ⟨s1, s2⟩ := s
  unfold schedV
  go_enter Yba.func12, Yba.ntmps12
  go_wp2
  go_loopw [2] (fun i wr => ∃ (k : Nat) (zs : List (Int × Int)), i = .int .i64 k ∧ DownInv i0 xs (s1, s2) zs k ∧ DW b w w.heap.size (s1, s2) (zs ++ rest) wr) (fun i _ => n - (intOf i).toNat)
  case atStart =>
    refine ⟨i0, xs, rfl, down_start _ (by have := HN.out; omega) HH.out, ?_, heap_alloc_new _ _, ?_, ⟨by simp, by simp; omega⟩, by omega, Nat.le_refl _⟩
    · exact below_row HR.out ((Below.refl _ _).alloc (Nat.le_refl _) _) hb
    · exact (Oth.refl _ _ _).below ((Below.refl _ _).alloc (Nat.le_refl _) _)
  case round =>
    obtain ⟨k, zs, rfl, I, D⟩ := hrel
    have hk : k < n := by have := I.lt; have := I.len; have := HN.out; omega
    have HZ : Hid (zs.length = n) := by have := I.len; have := HN.out; show zs.length = n; omega
    by_cases hc : n ≤ 2 * k + 1
    · obtain ⟨x0, x1, x2⟩ := D.box.cells
      obtain ⟨r0, r1, r2⟩ := D.row.cellsL k (by have := HZ.out; omega)
      have f := D.row.free
      go_wp2
      go_end0
      have E := down_end I (fun j h1 h2 h3 => by have := HZ.out; omega)
      exact ⟨rfl, zs.set k (s1, s2), (D.store k (s1, s2) (by have := HZ.out; omega)).row, E.2, E.1, (D.store k (s1, s2) (by have := HZ.out; omega)).oth⟩
    · have i3 : (0 : Int) ≤ (2 * (k : Int) + 1) := by omega
      have i4 : (2 * (k : Int) + 1) < (n : Int) := by omega
      go_upto_region 5 with fail
      go_cut [32] (fun t wx => t = .bool (pickT zs n k) ∧ DW b w w.heap.size (s1, s2) (zs ++ rest) wx)
      case first =>
        by_cases hc2 : 2 * k + 2 < n
        · have r := D.row.cellsL (2 * (k : Int) + 1).toNat (by have := HZ.out; omega)
          have q := D.row.cellsL (2 * (k : Int) + 1 + 1).toNat (by have := HZ.out; omega)
          have i1 : (2 * (k : Int) + 1 + 1) < (n : Int) := by omega
          have i2 : (0 : Int) ≤ (2 * (k : Int) + 1 + 1) := by omega
          have HT : Hid (ltE (gE zs (2 * (k : Int) + 1 + 1).toNat) (gE zs (2 * (k : Int) + 1).toNat) = pickT zs n k) := by
            show _ = _
            unfold pickT
            rw [show (2 * (k : Int) + 1 + 1).toNat = 2 * k + 2 by omega, show (2 * (k : Int) + 1).toNat = 2 * k + 1 by omega]
            simp [hc2]
          generalize gE zs (2 * (k : Int) + 1).toNat = rv at r HT
          generalize gE zs (2 * (k : Int) + 1 + 1).toNat = qv at q HT
          go_region_held3 (fun w' => w'.cell? ⟨b, (2 * (k : Int) + 1).toNat * 3, none⟩ = some (.int .i64 rv.1) ∧ w'.cell? ⟨b, (2 * (k : Int) + 1).toNat * 3 + 1, none⟩ = some (.int .u64 rv.2) ∧ w'.cell? ⟨b, (2 * (k : Int) + 1).toNat * 3 + 2, none⟩ = some (.pointer none) ∧
              w'.cell? ⟨b, (2 * (k : Int) + 1 + 1).toNat * 3, none⟩ = some (.int .i64 qv.1) ∧ w'.cell? ⟨b, (2 * (k : Int) + 1 + 1).toNat * 3 + 1, none⟩ = some (.int .u64 qv.2) ∧ w'.cell? ⟨b, (2 * (k : Int) + 1 + 1).toNat * 3 + 2, none⟩ = some (.pointer none))
            (first | go_keep | exact keep6 (by assumption) (by assumption)) ((go_at_call 24; refine (before_raw _ _ _ _ _).mono ?_; rintro e w1 ⟨rfl, hb1⟩))
          go_wp2
          go_meet
          case rel => exact ⟨val_bool HT.out, D.drew.below hb1⟩
        · have hd : decide (2 * (k : Int) + 1 + 1 < (n : Int)) = false := by simp; omega
          have HT : Hid (false = pickT zs n k) := by
            show _ = _
            unfold pickT
            simp [hc2]
          go_quiet (fail)
          go_wp2
          go_meet
          case rel => exact ⟨val_bool HT.out, D.below (below_drewN (Below.refl _ _) _)⟩
      case rest =>
        obtain ⟨rfl, D1⟩ := hcut
        go_upto_if 32 with fail
        go_cut [7] (fun c wx => c = .int .i64 (pickC zs n k : Nat) ∧ wx = wc)
        case first =>
          go_wp2
          · go_meet
            case rel => exact ⟨val_int (pick_yes ‹_›), rfl⟩
          · go_meet
            case rel => exact ⟨val_int (pick_no ‹_›), rfl⟩
        case rest =>
          obtain ⟨rfl, rfl⟩ := hcut
          obtain ⟨p1, p2, p3⟩ := pick_facts zs n k HZ.out (by omega)
          have HP2 : Hid (1 ≤ pickC zs n k ∧ (pickC zs n k - 1) / 2 = k) := p2
          have HP3 : Hid (∀ j, 1 ≤ j → j < zs.length → (j - 1) / 2 = k → ltE (gE zs j) (gE zs (pickC zs n k)) = false) := p3
          clear p2 p3
          generalize pickC zs n k = C at *
          have r := D1.row.cellsL C (by have := HZ.out; omega)
          have x := D1.box.cells
          have i5 : (0 : Int) ≤ (C : Int) := by omega
          have i6 : (C : Int) < (n : Int) := by omega
          go_upto_region 7 with fail
          go_cut [40] (fun t wx => t = .bool (!ltE (gE zs C) (s1, s2)) ∧ DW b w w.heap.size (s1, s2) (zs ++ rest) wx)
          case first =>
            generalize hrv : gE zs C = rv at r
            have HRV : Hid (gE zs C = rv) := hrv
            clear hrv
            go_region_held3 (fun w' => w'.cell? ⟨b, C * 3, none⟩ = some (.int .i64 rv.1) ∧ w'.cell? ⟨b, C * 3 + 1, none⟩ = some (.int .u64 rv.2) ∧ w'.cell? ⟨b, C * 3 + 2, none⟩ = some (.pointer none) ∧
                w'.cell? ⟨w.heap.size, 0, none⟩ = some (.int .i64 s1) ∧ w'.cell? ⟨w.heap.size, 1, none⟩ = some (.int .u64 s2) ∧ w'.cell? ⟨w.heap.size, 2, none⟩ = some (.pointer none))
              (first | go_keep | exact keep6 (by assumption) (by assumption)) ((go_at_call 24; refine (before_raw _ _ _ _ _).mono ?_; rintro e w1 ⟨rfl, hb1⟩))
            go_wp2
            go_meet
            case rel => exact ⟨by rw [HRV.out], D1.drew.below hb1⟩
          case rest =>
            obtain ⟨rfl, D2⟩ := hcut
            clear r x D1
            by_cases hlt : ltE (gE zs C) (s1, s2) = true
            · have hnl : (!ltE (gE zs C) (s1, s2)) = false := by rw [hlt]; rfl
              rw [hnl]
              have r := D2.row.cellsL C (by have := HZ.out; omega)
              have q := D2.row.cellsL k (by have := HZ.out; omega)
              have f := D2.row.free
              have HD : Hid (DownInv i0 xs (s1, s2) (zs.set k (gE zs C)) C) := down_step I (by have := HZ.out; omega) HP2.out HP3.out hlt
              have HW : Hid (DW b w w.heap.size (s1, s2) (zs.set k (gE zs C) ++ rest) _) := D2.store k (gE zs C) (by have := HZ.out; omega)
              have hkC : k < C := by have := HP2.out; omega
              generalize gE zs C = rv at *
              clear hlt hnl
              go_wp2
              go_roundw
              case rel => exact ⟨C, _, rfl, HD.out, HW.out⟩
              case measure => simp [intOf]; omega
            · have hlt : ltE (gE zs C) (s1, s2) = false := by simpa using hlt
              have hnl : (!ltE (gE zs C) (s1, s2)) = true := by rw [hlt]; rfl
              rw [hnl]
              obtain ⟨x0, x1, x2⟩ := D2.box.cells
              obtain ⟨r0, r1, r2⟩ := D2.row.cellsL k (by have := HZ.out; omega)
              have f := D2.row.free
              have E := down_end I (fun j h1 h2 h3 => le_trans hlt (HP3.out j h1 h2 h3))
              have HE : Hid (HeapFrom i0 (zs.set k (s1, s2)) ∧ (zs.set k (s1, s2)).Perm (xs.set i0 (s1, s2))) := E
              clear E hlt hnl
              go_wp2
              go_end0
              exact ⟨rfl, zs.set k (s1, s2), (D2.store k (s1, s2) (by have := HZ.out; omega)).row, HE.out.2, HE.out.1, (D2.store k (s1, s2) (by have := HZ.out; omega)).oth⟩
end Go.Proofs.Ybulkboha
