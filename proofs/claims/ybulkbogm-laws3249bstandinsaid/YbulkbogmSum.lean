import Derived.Test.YbulkbogmRows
import Derived.WalkKit
import Derived.WalkSpells
import Derived.WalkLawsBesides
namespace Go.Proofs.Ybulkbogm
open Go.RowKit
set_option linter.unusedVariables false

theorem Yba.info5 : (Yba.prog.info? 5).map (fun i => (i.zero, i.size, i.bytes)) = some (some (.int .u8 0), 1, 1) := by kernel_rfl

/-- the world behind the three stores of Sum. -/
def sumW (w : World) (bs : Nat) : World :=
  ((w.setCell ⟨bs, 1, none⟩ (.int .i64 1)).setCell ⟨bs, 3, none⟩ (.int .i64 0)).setCell ⟨bs, 4, none⟩ (.int .i64 32)

def rowVals (zs : List Int) : List Value := zs.map (Value.int .u8)

theorem cell_three {w : World} {bs o1 o2 o3 : Nat} {v1 v2 v3 : Value} {a : Addr} (h : a.block ≠ bs) :
    (((w.setCell ⟨bs, o1, none⟩ v1).setCell ⟨bs, o2, none⟩ v2).setCell ⟨bs, o3, none⟩ v3).cell? a = w.cell? a := by
  refine World.cell?_of_block (w := w) ?_
  rw [Below.heap_setCell _ _ _ _ h, Below.heap_setCell _ _ _ _ h, Below.heap_setCell _ _ _ _ h]
theorem frozen_three {w : World} {bs o1 o2 o3 : Nat} {v1 v2 v3 : Value} {a : Addr} :
    (((w.setCell ⟨bs, o1, none⟩ v1).setCell ⟨bs, o2, none⟩ v2).setCell ⟨bs, o3, none⟩ v3).frozen? a = w.frozen? a := by
  simp

set_option maxHeartbeats 800000 in
set_option maxRecDepth 1000000 in
theorem sum_any (bs bi : Nat) (ad : Addr) (len cap : Nat) (zs : List Int) (w : World) (hne : bi ≠ bs)
    (h0 : w.cell? ⟨bs, 0, none⟩ = some (.slice (some ad) len cap)) (h1 : w.cell? ⟨bs, 1, none⟩ = some (.int .i64 0))
    (h2 : w.cell? ⟨bs, 2, none⟩ = some (.int .i64 0)) (h3 : w.cell? ⟨bs, 3, none⟩ = some (.int .i64 0)) (h4 : w.cell? ⟨bs, 4, none⟩ = some (.int .i64 0))
    (f1 : w.frozen? ⟨bs, 1, none⟩ = false) (f3 : w.frozen? ⟨bs, 3, none⟩ = false) (f4 : w.frozen? ⟨bs, 4, none⟩ = false)
    (hlen : len ≤ 1024) (hz : zs.length = len) (had : ∀ j, j < len → (ad.add j).block ≠ bs)
    (hsrc : ∀ j u, (rowVals zs)[j]? = some u → w.cell? (ad.add j) = some u)
    (hspare : ∀ j, j < 32 → (w.cell? ⟨bi, j, none⟩).isSome = true ∧ w.frozen? ⟨bi, j, none⟩ = false) :
    Calls Yba.prog 27 #[.pointer (some ⟨bs, 0, none⟩), .slice (some ⟨bi, 0, none⟩) 0 32] w fun e w' =>
      ∃ v, e = .returned v ∧ ((len ≤ 32 ∧ w' = (sumW w bs).setCells bi 0 (rowVals zs)) ∨ (32 < len ∧ (sumW w bs).grownBy w' none)) := by
  obtain ⟨i0, hi, hz0, hz1, hz2⟩ := info_parts Yba.info5
  have HS : Hid (∀ j u, (rowVals zs)[j]? = some u → w.cell? (ad.add j) = some u) := hsrc
  have HP : Hid (∀ j, j < 32 → (w.cell? ⟨bi, j, none⟩).isSome = true ∧ w.frozen? ⟨bi, j, none⟩ = false) := hspare
  have HZ : Hid (zs.length = len) := hz
  have HD : Hid (∀ j, j < len → (ad.add j).block ≠ bs) := had
  clear hsrc hspare hz had
  go_enter Yba.func27, Yba.ntmps27
  go_wp2_with (at_builtin; refine wpList_append_arg _ rfl (.tmp 22) (.tmp 26) 22 rfl 5 i0 (.int .u8 0) 1 1 Yba.underlying22 hi hz0 hz1 hz2 rfl (by decide) bi 0 0 32 [] rfl ?lo ?olds ad len cap (rowVals zs) rfl ?hn ?c1 ?c2 ?spare ?b1 ?b2 ?room ?grow)
  case lo => rfl
  case olds => intro j u hu; simp at hu
  case hn => unfold rowVals; rw [List.length_map, HZ.out, Nat.mul_one]
  case c1 =>
    intro j u hj
    have hb : (ad.add j).block ≠ bs := HD.out j (by have := (List.getElem?_eq_some_iff.1 hj).1; rw [rowVals, List.length_map, HZ.out] at this; exact this)
    rw [cell_three hb]
    exact HS.out j u hj
  case c2 => intro u hu; obtain ⟨_, _, rfl⟩ := List.mem_map.1 hu; rfl
  case spare =>
    intro hr j hj
    have hj' : j < 32 := by
      have : (rowVals zs).length = len := by unfold rowVals; rw [List.length_map, HZ.out]
      omega
    rw [Nat.zero_mul, Nat.zero_add, cell_three (show (⟨bi, j, none⟩ : Addr).block ≠ bs from hne), frozen_three]
    exact HP.out j hj'
  case b1 => unfold maxLen; omega
  case b2 => omega
  case room =>
    intro hr
    go_wp2
    go_ret
    exact ⟨_, rfl, Or.inl ⟨by omega, rfl⟩⟩
  case grow =>
    intro hg v' w' hown hgrow
    go_wp2
    go_ret
    exact ⟨_, rfl, Or.inr ⟨by omega, hgrow⟩⟩

set_option maxHeartbeats 800000 in
theorem sum_nil (bs bi : Nat) (w : World)
    (h0 : w.cell? ⟨bs, 0, none⟩ = some (.slice none 0 0)) (h1 : w.cell? ⟨bs, 1, none⟩ = some (.int .i64 0))
    (h2 : w.cell? ⟨bs, 2, none⟩ = some (.int .i64 0)) (h3 : w.cell? ⟨bs, 3, none⟩ = some (.int .i64 0)) (h4 : w.cell? ⟨bs, 4, none⟩ = some (.int .i64 0))
    (f1 : w.frozen? ⟨bs, 1, none⟩ = false) (f3 : w.frozen? ⟨bs, 3, none⟩ = false) (f4 : w.frozen? ⟨bs, 4, none⟩ = false) :
    Calls Yba.prog 27 #[.pointer (some ⟨bs, 0, none⟩), .slice (some ⟨bi, 0, none⟩) 0 32] w fun e w' =>
      ∃ v, e = .returned v ∧ w' = sumW w bs := by
  go_enter Yba.func27, Yba.ntmps27
  go_wp2
  go_ret
  exact ⟨_, rfl, rfl⟩
end Go.Proofs.Ybulkbogm
