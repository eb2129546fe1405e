import Derived.Test.YbulkbohaRank
import Derived.Deep.AppendSrc
import Derived.Deep.RegionLaw
namespace Go.Proofs.Ybulkboha
open Go.RowKit
set_option linter.unusedVariables false

/-- of the blocks that were there only those of S may have changed. -/
structure Chg (S : Nat → Prop) (w w' : World) : Prop where
  os : w'.os = w.os
  tape : w'.tape = w.tape
  output : w'.output = w.output
  size : w.heap.size ≤ w'.heap.size
  block : ∀ k, k < w.heap.size → ¬ S k → w'.heap[k]? = w.heap[k]?

theorem Chg.refl (S : Nat → Prop) (w : World) : Chg S w w := ⟨rfl, rfl, rfl, Nat.le_refl _, fun _ _ _ => rfl⟩
theorem Chg.trans {S : Nat → Prop} {a b c : World} (h : Chg S a b) (k : Chg S b c) : Chg S a c :=
  ⟨k.os.trans h.os, k.tape.trans h.tape, k.output.trans h.output, Nat.le_trans h.size k.size, fun i hi hn => (k.block i (Nat.lt_of_lt_of_le hi h.size) hn).trans (h.block i hi hn)⟩
theorem Chg.mono {S T : Nat → Prop} {a b : World} (h : Chg S a b) (hs : ∀ k, k < a.heap.size → S k → T k) : Chg T a b :=
  ⟨h.os, h.tape, h.output, h.size, fun i hi hn => h.block i hi (fun hs' => hn (hs i hi hs'))⟩
theorem Chg.of_below {S : Nat → Prop} {a b : World} (h : Below a.heap.size a b) : Chg S a b := ⟨h.os, h.tape, h.output, h.size, fun i hi _ => h.block i hi⟩
theorem Chg.to_below {S : Nat → Prop} {a b : World} {N : Nat} (h : Chg S a b) (hN : N ≤ a.heap.size) (hs : ∀ k, S k → N ≤ k) : Below N a b :=
  ⟨h.os, h.tape, h.output, h.size, fun i hi => h.block i (by omega) (fun hk => by have := hs i hk; omega)⟩
theorem Chg.heap {S : Nat → Prop} {a b : World} {k : Nat} {o : Obj} (h : Chg S a b) (hk : a.heap[k]? = some o) (hn : ¬ S k) : b.heap[k]? = some o := by
  rw [h.block k (Array.getElem?_eq_some_iff.1 hk).1 hn, hk]

/-- block b holds the cells vs, of elements of type t. -/
def Flat (w : World) (b : Nat) (t : TypeId) (vs : List Value) : Prop := w.heap[b]? = some (.cells vs.toArray t (0, 0))
theorem Flat.cell {w : World} {b : Nat} {t : TypeId} {vs : List Value} (h : Flat w b t vs) (o : Nat) : w.cell? ⟨b, o, none⟩ = vs[o]? := by
  rw [cell_of_row w b o _ t _ h]; simp
theorem Flat.free {w : World} {b : Nat} {t : TypeId} {vs : List Value} (h : Flat w b t vs) (o : Nat) : w.frozen? ⟨b, o, none⟩ = false := frozen_of_row w b o _ t h
theorem Flat.lt {w : World} {b : Nat} {t : TypeId} {vs : List Value} (h : Flat w b t vs) : b < w.heap.size := (Array.getElem?_eq_some_iff.1 h).1
theorem Flat.chg {S : Nat → Prop} {w w' : World} {b : Nat} {t : TypeId} {vs : List Value} (h : Flat w b t vs) (k : Chg S w w') (hn : ¬ S b) : Flat w' b t vs := k.heap h hn

theorem flat_set {w : World} {b t : Nat} {cs : List Value} (h : Flat w b t cs) (o : Nat) (v : Value) : Flat (w.setCell ⟨b, o, none⟩ v) b t (cs.set o v) := by
  unfold Flat
  rw [heap_setCell_same w b o _ t v h]
  simp
theorem flat_setCells (b t : Nat) : ∀ (us : List Value) (o : Nat) (w : World) (cs : List Value), Flat w b t cs → o + us.length ≤ cs.length →
    Flat (w.setCells b o us) b t (cs.take o ++ us ++ cs.drop (o + us.length)) ∧ Chg (· = b) w (w.setCells b o us)
  | [], o, w, cs, h, hl => by
    refine ⟨?_, Chg.refl _ _⟩
    show Flat w b t _
    simpa using h
  | u :: us, o, w, cs, h, hl => by
    simp only [List.length_cons] at hl
    have h1 := flat_set h o u
    obtain ⟨h2, h3⟩ := flat_setCells b t us (o + 1) (w.setCell ⟨b, o, none⟩ u) (cs.set o u) h1 (by simp; omega)
    have hs : Chg (· = b) w (w.setCell ⟨b, o, none⟩ u) := ⟨rfl, rfl, rfl, by simp [World.setCell], fun k _ hk => Below.heap_setCell _ _ _ _ hk⟩
    refine ⟨?_, hs.trans h3⟩
    show Flat ((w.setCell ⟨b, o, none⟩ u).setCells b (o + 1) us) b t _
    have e : (cs.set o u).take (o + 1) ++ us ++ (cs.set o u).drop (o + 1 + us.length) = cs.take o ++ (u :: us) ++ cs.drop (o + (u :: us).length) := by
      rw [List.drop_set_of_lt (by omega), List.take_add_one]
      rw [List.take_set_of_le (Nat.le_refl _)]
      have : (cs.set o u)[o]? = some u := by rw [List.getElem?_set_self (by omega)]
      rw [this]
      simp only [List.length_cons, Option.toList_some, List.append_assoc, List.cons_append, List.nil_append]
      congr 3
      congr 1
      omega
    rw [← e]
    exact h2

/-- the slice v holds n elements of k cells each, the cells vs, in a block that is its own; or it is nil. -/
def Own (w : World) (k : Nat) (t : TypeId) (v : Value) (n : Nat) (vs : List Value) : Prop :=
  vs.length = n * k ∧ ((v = .slice none 0 0 ∧ n = 0) ∨ ∃ b cap rest, v = .slice (some ⟨b, 0, none⟩) n cap ∧ n ≤ cap ∧ rest.length = (cap - n) * k ∧ Flat w b t (vs ++ rest))
/-- v's block. -/
def InV (v : Value) (b : Nat) : Prop := ∃ n c, v = .slice (some ⟨b, 0, none⟩) n c
theorem Own.chg {S : Nat → Prop} {w w' : World} {k n : Nat} {t : TypeId} {v : Value} {vs : List Value} (h : Own w k t v n vs) (c : Chg S w w') (hn : ∀ b, InV v b → ¬ S b) : Own w' k t v n vs := by
  refine ⟨h.1, ?_⟩
  rcases h.2 with h0 | ⟨b, cap, rest, hv, h1, h2, h3⟩
  · exact .inl h0
  · exact .inr ⟨b, cap, rest, hv, h1, h2, h3.chg c (hn b ⟨n, cap, hv⟩)⟩
theorem Own.lt {w : World} {k n : Nat} {t : TypeId} {v : Value} {vs : List Value} (h : Own w k t v n vs) {b : Nat} (hb : InV v b) : b < w.heap.size := by
  obtain ⟨n', c', rfl⟩ := hb
  rcases h.2 with ⟨h0, _⟩ | ⟨b', cap, rest, hv, _, _, h3⟩
  · cases h0
  · cases hv; exact h3.lt
end Go.Proofs.Ybulkboha
