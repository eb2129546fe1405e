import Derived.Test.YbulkbojsMul
import Derived.Deep.CutBlock
namespace Go.Proofs.Ybulkbojs
open Go.RowKit
set_option linter.unusedVariables false

theorem ret_two {k k' : IntKind} {a b c d : Int} (h : a = b) (h' : c = d) : Ending.returned (.tuple #[.int k a, .int k' c]) = .returned (.tuple #[.int k b, .int k' d]) := by rw [h, h']
theorem val_int {k : IntKind} {a b : Int} (h : a = b) : Value.int k a = .int k b := by rw [h]
theorem wrap_range (a : Int) : 0 ≤ IntKind.u64.wrap a ∧ IntKind.u64.wrap a < 18446744073709551616 := by rw [IntKind.wrap_u64]; omega
theorem wrap_lt (a : Int) : (IntKind.u64.wrap a).toNat < 18446744073709551616 := by have := wrap_range a; omega
theorem toNat_val {a : Int} (h : 0 ≤ a) : Value.int .u64 a = .int .u64 (a.toNat : Int) := by rw [Int.toNat_of_nonneg h]
theorem bits_range (op : BinOp) (x y : Int) : 0 ≤ bits op .u64 x y ∧ bits op .u64 x y < 18446744073709551616 := wrap_range _
theorem bits_lt (op : BinOp) (x y : Int) : (bits op .u64 x y).toNat < 18446744073709551616 := by have := bits_range op x y; omega
theorem quo_nat (a b : Nat) (ha : a < 18446744073709551616) : IntKind.u64.wrap ((a : Int) / (b : Int)) = ((a / b : Nat) : Int) := by
  rw [← Int.natCast_ediv]
  exact wrapLt _ (Nat.lt_of_le_of_lt (Nat.div_le_self a b) ha)
theorem rem_range (u n1 : Nat) (hu : u < 18446744073709551616) (h1 : 1 ≤ n1) (h2 : n1 < 4294967296) :
    0 ≤ IntKind.u64.wrap ((u : Int) - IntKind.u64.wrap (((u / n1 : Nat) : Int) * (n1 : Int))) ∧ IntKind.u64.wrap ((u : Int) - IntKind.u64.wrap (((u / n1 : Nat) : Int) * (n1 : Int))) < 4294967296 := by
  have e : ((u / n1 : Nat) : Int) * (n1 : Int) = ((u / n1 * n1 : Nat) : Int) := (Int.natCast_mul _ _).symm
  have hle : u / n1 * n1 ≤ u := Nat.div_mul_le_self u n1
  have hm : u - u / n1 * n1 = u % n1 := by have := Nat.div_add_mod' u n1; omega
  have hlt : u % n1 < n1 := Nat.mod_lt _ (by omega)
  rw [e, wrapLt _ (by omega), show (u : Int) - ((u / n1 * n1 : Nat) : Int) = ((u % n1 : Nat) : Int) by omega, wrapLt _ (by omega)]
  omega
theorem shl_top (y : Nat) (h0 : 0 < y) (h : y < 18446744073709551616) : IntKind.u64.wrap ((y : Int) * 2 ^ min (IntKind.u64.wrap (64 - (Lib.bitLen y : Int))).toNat 64) = ((y * 2 ^ (64 - Lib.bitLen y) : Nat) : Int) := by
  have hl : Lib.bitLen y ≤ 64 := Lib.bitLen_le y 64 (by omega) (by omega)
  have e : min (IntKind.u64.wrap (64 - (Lib.bitLen y : Int))).toNat 64 = 64 - Lib.bitLen y := by rw [IntKind.wrap_u64]; omega
  rw [e]
  have e2 : ((y : Int) * 2 ^ (64 - Lib.bitLen y)) = ((y * 2 ^ (64 - Lib.bitLen y) : Nat) : Int) := by push_cast; rfl
  rw [e2]
  exact wrapLt _ (shift_top y (by omega) h).2

set_option maxHeartbeats 1000000 in
theorem div64_zero (lo y : Nat) (hy0 : 0 < y) (hl : lo < 18446744073709551616) (hy : y < 18446744073709551616) (w : World) :
    Calls Yba.prog 19 #[.int .u64 0, .int .u64 lo, .int .u64 y] w fun e w' => e = .returned (.tuple #[.int .u64 ((lo / y : Nat) : Int), .int .u64 ((lo % y : Nat) : Int)]) ∧ ∃ k, w' = w.drewN k := by
  have h1 : ((y : Int) == 0) = false := by simp; omega
  have h2 : ¬ (y : Int) ≤ 0 := by omega
  go_enter Yba.func19, Yba.ntmps19
  go_wp2
  go_quiet (fail)
  go_wp2
  go_ret2
  exact ⟨ret_two (quo_nat lo y hl) (Int.natCast_emod lo y).symm, _, rfl⟩

set_option maxHeartbeats 1000000 in
set_option maxRecDepth 100000 in
theorem div64_any (hi lo y : Nat) (h0 : 0 < hi) (hlt : hi < y) (hl : lo < 18446744073709551616) (hy : y < 18446744073709551616) (w : World) :
    Calls Yba.prog 19 #[.int .u64 hi, .int .u64 lo, .int .u64 y] w fun e w' => ∃ q r : Int, e = .returned (.tuple #[.int .u64 q, .int .u64 r]) ∧ ∃ k, w' = w.drewN k := by
  have h1 : ((y : Int) == 0) = false := by simp; omega
  have h2 : ¬ (y : Int) ≤ (hi : Int) := by omega
  have h3 : ((hi : Int) == 0) = false := by simp; omega
  go_enter Yba.func19, Yba.ntmps19
  have HB : Hid (2 ^ 63 ≤ y * 2 ^ (64 - Lib.bitLen y) ∧ y * 2 ^ (64 - Lib.bitLen y) < 2 ^ 64) := shift_top y (by omega) hy
  have HS := shl_top y (by omega) hy
  have HSh : Hid (IntKind.u64.wrap ((y : Int) * 2 ^ min (IntKind.u64.wrap (64 - (Lib.bitLen y : Int))).toNat 64) = ((y * 2 ^ (64 - Lib.bitLen y) : Nat) : Int)) := HS
  clear HS
  go_upto_region 8 with (go_at_call 20; refine (Yba.bits_LeadingZeros64 _ _ (by omega) (by omega)).mono ?_; rintro e w' ⟨rfl, rfl⟩)
  obtain ⟨w, hw⟩ : ∃ w, w = w' := ⟨_, rfl⟩
  subst hw
  go_cut [2] (fun v wx => v = .int .u64 ((y * 2 ^ (64 - Lib.bitLen y) : Nat) : Int) ∧ wx = w)
  case first =>
    go_wp2
    go_meet
    case rel => exact ⟨val_int HSh.out, rfl⟩
  case rest =>
    obtain ⟨rfl, rfl⟩ := hcut
    have HB2 := HB.out
    clear HB HSh
    generalize y * 2 ^ (64 - Lib.bitLen y) = Y at *
    go_upto_region 9 with fail
    go_cut [9] (fun v wx => ∃ n1 : Nat, v = .int .u64 n1 ∧ 1 ≤ n1 ∧ n1 < 4294967296 ∧ wx = wc)
    case first =>
      go_wp2
      go_meet
      case rel => exact ⟨Y / 4294967296, val_int (by omega), by omega, by omega, rfl⟩
    case rest =>
      obtain ⟨n1, rfl, hn1, hn2, rfl⟩ := hcut
      go_upto_region 10 with fail
      go_cut [10] (fun v wx => ∃ n0 : Int, v = .int .u64 n0 ∧ wx = wc)
      case first =>
        go_wp2
        go_meet
        case rel => exact ⟨_, rfl, rfl⟩
      case rest =>
        obtain ⟨n0, rfl, rfl⟩ := hcut
        go_upto_region 11 with fail
        go_cut [11] (fun v wx => ∃ u : Nat, v = .int .u64 u ∧ u < 18446744073709551616 ∧ wx = wc)
        case first =>
          go_wp2
          go_meet
          case rel => exact ⟨_, toNat_val (bits_range _ _ _).1, bits_lt _ _ _, rfl⟩
        case rest =>
          obtain ⟨u, rfl, hu, rfl⟩ := hcut
          go_upto_region 12 with fail
          go_cut [12] (fun v wx => ∃ z : Int, v = .int .u64 z ∧ wx = wc)
          case first =>
            go_wp2
            go_meet
            case rel => exact ⟨_, rfl, rfl⟩
          case rest =>
            obtain ⟨z, rfl, rfl⟩ := hcut
            go_upto_region 13 with fail
            go_cut [13] (fun v wx => ∃ z1 : Int, v = .int .u64 z1 ∧ wx = wc)
            case first =>
              go_wp2
              go_meet
              case rel => exact ⟨_, rfl, rfl⟩
            case rest =>
              obtain ⟨z1, rfl, rfl⟩ := hcut
              go_upto_region 14 with fail
              go_cut [14] (fun v wx => ∃ z0 : Int, v = .int .u64 z0 ∧ wx = wc)
              case first =>
                go_wp2
                go_meet
                case rel => exact ⟨_, rfl, rfl⟩
              case rest =>
                obtain ⟨z0, rfl, rfl⟩ := hcut
                have hnz : ((n1 : Int) == 0) = false := by simp; omega
                go_upto_region 15 with fail
                go_cut [15] (fun v wx => v = .int .u64 ((u / n1 : Nat) : Int) ∧ wx = wc)
                case first =>
                  go_wp2
                  go_meet
                  case rel => exact ⟨val_int (quo_nat u n1 hu), rfl⟩
                case rest =>
                  obtain ⟨rfl, rfl⟩ := hcut
                  go_upto_region 16 with fail
                  go_cut [16] (fun v wx => ∃ r : Int, v = .int .u64 r ∧ 0 ≤ r ∧ r < 4294967296 ∧ wx = wc)
                  case first =>
                    go_wp2
                    go_meet
                    case rel => exact ⟨_, rfl, (rem_range u n1 hu hn1 hn2).1, (rem_range u n1 hu hn1 hn2).2, rfl⟩
                  case rest =>
                    obtain ⟨r, rfl, hr0, hr1, rfl⟩ := hcut
                    generalize ((u / n1 : Nat) : Int) = q at *
                    go_upto_block 0 with fail
                    go_cut [15, 16] (fun a c wx => ∃ q r : Int, a = .int .u64 q ∧ c = .int .u64 r ∧ wx = wc)
                    case first =>
                      go_wp2
                      go_loop [15, 16] (fun a c => ∃ q r : Int, a = .int .u64 q ∧ c = .int .u64 r ∧ 0 ≤ r ∧ r < 4294967296) (fun _ c => (4294967296 - intOf c).toNat)
                      case atStart => exact ⟨q, r, rfl, rfl, hr0, hr1⟩
                      case round =>
                        obtain ⟨q', r', rfl, rfl, k0, k1⟩ := hrel
                        have kw : IntKind.u64.wrap (r' + (n1 : Int)) = r' + (n1 : Int) := by rw [IntKind.wrap_u64]; omega
                        go_wp2
                        all_goals (first
                          | (go_meet; exact ⟨_, _, rfl, rfl, rfl⟩)
                          | (go_round
                             case rel => exact ⟨_, _, rfl, rfl, by omega, by omega⟩
                             case measure => simp [intOf]; omega))
                    case rest =>
                      obtain ⟨q', r', rfl, rfl, rfl⟩ := hcut
                      go_upto_region 21 with fail
                      go_cut [17] (fun v wx => ∃ p : Nat, v = .int .u64 p ∧ p < 18446744073709551616 ∧ wx = wc)
                      case first =>
                        go_wp2
                        go_meet
                        case rel => exact ⟨_, toNat_val (wrap_range _).1, wrap_lt _, rfl⟩
                      case rest =>
                        obtain ⟨p, rfl, hp, rfl⟩ := hcut
                        go_upto_region 22 with fail
                        go_cut [18] (fun v wx => v = .int .u64 ((p / n1 : Nat) : Int) ∧ wx = wc)
                        case first =>
                          go_wp2
                          go_meet
                          case rel => exact ⟨val_int (quo_nat p n1 hp), rfl⟩
                        case rest =>
                          obtain ⟨rfl, rfl⟩ := hcut
                          go_upto_region 23 with fail
                          go_cut [16] (fun v wx => ∃ r : Int, v = .int .u64 r ∧ 0 ≤ r ∧ r < 4294967296 ∧ wx = wc)
                          case first =>
                            go_wp2
                            go_meet
                            case rel => exact ⟨_, rfl, (rem_range p n1 hp hn1 hn2).1, (rem_range p n1 hp hn1 hn2).2, rfl⟩
                          case rest =>
                            obtain ⟨r2, rfl, hs0, hs1, rfl⟩ := hcut
                            generalize ((p / n1 : Nat) : Int) = q2 at *
                            go_upto_block 2 with fail
                            go_cut [18, 16] (fun a c wx => ∃ q r : Int, a = .int .u64 q ∧ c = .int .u64 r ∧ wx = wc)
                            case first =>
                              go_wp2
                              go_loop [18, 16] (fun a c => ∃ q r : Int, a = .int .u64 q ∧ c = .int .u64 r ∧ 0 ≤ r ∧ r < 4294967296) (fun _ c => (4294967296 - intOf c).toNat)
                              case atStart => exact ⟨q2, r2, rfl, rfl, hs0, hs1⟩
                              case round =>
                                obtain ⟨q'', r'', rfl, rfl, k0, k1⟩ := hrel
                                have kw : IntKind.u64.wrap (r'' + (n1 : Int)) = r'' + (n1 : Int) := by rw [IntKind.wrap_u64]; omega
                                go_wp2
                                all_goals (first
                                  | (go_meet; exact ⟨_, _, rfl, rfl, rfl⟩)
                                  | (go_round
                                     case rel => exact ⟨_, _, rfl, rfl, by omega, by omega⟩
                                     case measure => simp [intOf]; omega))
                            case rest =>
                              obtain ⟨q'', r'', rfl, rfl, rfl⟩ := hcut
                              go_wp2
                              go_ret2
                              exact ⟨_, _, rfl, 0, rfl⟩
end Go.Proofs.Ybulkbojs
