import Derived.Test.YbulkbohaSmall
namespace Go.Proofs.Ybulkboha
set_option linter.unusedVariables false

/-! THE ORDER -/
theorem lt_irrefl (a : Int × Int) : ltE a a = false := by simp [ltE]
theorem lt_asymm {a b : Int × Int} (h : ltE a b = true) : ltE b a = false := by
  unfold ltE at *
  by_cases e : a.1 = b.1
  · rw [if_pos e] at h; rw [if_pos e.symm]; simp at *; omega
  · rw [if_neg e] at h; rw [if_neg (fun x => e x.symm)]; simp at *; omega
/-- 'not below' hands on: a ≤ b ≤ c gives a ≤ c. -/
theorem le_trans {a b c : Int × Int} (h1 : ltE b a = false) (h2 : ltE c b = false) : ltE c a = false := by
  unfold ltE at *
  by_cases e : b.1 = a.1
  · rw [if_pos e] at h1
    by_cases f : c.1 = b.1
    · rw [if_pos f] at h2; rw [if_pos (f.trans e)]; simp at *; omega
    · rw [if_neg f] at h2; rw [if_neg (by omega)]; simp at *; omega
  · rw [if_neg e] at h1
    by_cases f : c.1 = b.1
    · rw [if_pos f] at h2; rw [if_neg (by omega)]; simp at *; omega
    · rw [if_neg f] at h2
      simp at h1 h2
      rw [if_neg (by omega)]; simp; omega
theorem le_antisymm {a b : Int × Int} (h1 : ltE b a = false) (h2 : ltE a b = false) : a = b := by
  unfold ltE at *
  by_cases e : b.1 = a.1
  · rw [if_pos e] at h1; rw [if_pos e.symm] at h2
    simp at h1 h2
    exact Prod.ext e.symm (by omega)
  · rw [if_neg e] at h1; rw [if_neg (fun x => e x.symm)] at h2; simp at h1 h2; omega

/-! LISTS BY PLACES -/
def gE (xs : List (Int × Int)) (j : Nat) : Int × Int := xs.getD j (0, 0)
theorem gE_eq {xs : List (Int × Int)} {j : Nat} (h : j < xs.length) : gE xs j = xs[j] := by
  simp [gE, List.getD_eq_getElem?_getD, h]
theorem gE_set_same {xs : List (Int × Int)} {j : Nat} (s : Int × Int) (h : j < xs.length) : gE (xs.set j s) j = s := by
  simp [gE, List.getD_eq_getElem?_getD, h]
theorem gE_set_ne {xs : List (Int × Int)} {i j : Nat} (s : Int × Int) (h : i ≠ j) : gE (xs.set i s) j = gE xs j := by
  simp [gE, List.getD_eq_getElem?_getD, h]

theorem set_swap (l : List (Int × Int)) (i j : Nat) (h1 : i < l.length) (h2 : j < l.length) : ((l.set i l[j]).set j l[i]).Perm l := List.set_set_perm h1 h2

theorem perm_move {xs : List (Int × Int)} {i c : Nat} (s : Int × Int) (hi : i < xs.length) (hc : c < xs.length) (hne : i ≠ c) :
    ((xs.set i (gE xs c)).set c s).Perm (xs.set i s) := by
  have h := set_swap (xs.set i s) i c (by simpa using hi) (by simpa using hc)
  have e1 : (xs.set i s)[c]'(by simpa using hc) = gE xs c := by rw [gE_eq hc]; simp [hne]
  have e2 : (xs.set i s)[i]'(by simpa using hi) = s := by simp
  rw [e1, e2, List.set_set] at h
  exact h

def HeapFrom (k : Nat) (xs : List (Int × Int)) : Prop :=
  ∀ j, 1 ≤ j → j < xs.length → k ≤ (j - 1) / 2 → ltE (gE xs j) (gE xs ((j - 1) / 2)) = false

/-! DOWN. 'ys': the list with s laid into the hole i. -/
structure DownInv (i0 : Nat) (xs0 : List (Int × Int)) (s : Int × Int) (xs : List (Int × Int)) (i : Nat) : Prop where
  len : xs.length = xs0.length
  lt : i < xs.length
  ge : i0 ≤ i
  perm : (xs.set i s).Perm (xs0.set i0 s)
  heap : ∀ j, 1 ≤ j → j < xs.length → i0 ≤ (j - 1) / 2 → (j - 1) / 2 ≠ i → ltE (gE (xs.set i s) j) (gE (xs.set i s) ((j - 1) / 2)) = false
  grand : i0 < i → ∀ j, 1 ≤ j → j < xs.length → (j - 1) / 2 = i → i0 ≤ (i - 1) / 2 ∧ ltE (gE xs j) (gE xs ((i - 1) / 2)) = false

theorem down_start {i0 : Nat} {xs0 : List (Int × Int)} (s : Int × Int) (h : i0 < xs0.length) (hh : HeapFrom (i0 + 1) xs0) : DownInv i0 xs0 s xs0 i0 := by
  refine ⟨rfl, h, Nat.le_refl _, List.Perm.refl _, ?_, fun hlt => absurd hlt (Nat.lt_irrefl _)⟩
  intro j h1 h2 h3 h4
  have hj := hh j h1 h2 (by omega)
  rw [gE_set_ne s (by omega), gE_set_ne s (by omega)]
  exact hj

/-- c: the child of i that is not above the other; it lies below s: it moves up. -/
theorem down_step {i0 : Nat} {xs0 xs : List (Int × Int)} {s : Int × Int} {i c : Nat} (I : DownInv i0 xs0 s xs i) (hc : c < xs.length) (hpc : 1 ≤ c ∧ (c - 1) / 2 = i)
    (hmin : ∀ j, 1 ≤ j → j < xs.length → (j - 1) / 2 = i → ltE (gE xs j) (gE xs c) = false) (hlt : ltE (gE xs c) s = true) : DownInv i0 xs0 s (xs.set i (gE xs c)) c := by
  have hne : i ≠ c := by omega
  have hi := I.lt
  have hil : i < (xs.set i (gE xs c)).length := by simpa using hi
  refine ⟨by rw [List.length_set]; exact I.len, by simpa using hc, by have := I.ge; omega, (perm_move s hi hc hne).trans I.perm, ?_, ?_⟩
  · intro j h1 h2 h3 h4
    rw [List.length_set] at h2
    have key := I.heap j h1 h2 h3
    by_cases hp : (j - 1) / 2 = i
    · -- a child of i
      rw [hp, gE_set_ne s (Ne.symm hne), gE_set_same _ hi]
      by_cases hj : j = c
      · subst hj
        rw [gE_set_same s (by simpa using hc)]
        exact lt_asymm hlt
      · rw [gE_set_ne s (fun h => hj h.symm), gE_set_ne _ (by omega)]
        exact hmin j h1 h2 hp
    · have key := key hp
      by_cases hj : j = i
      · subst hj
        have g := (I.grand (by omega) c hpc.1 hc hpc.2).2
        rw [gE_set_ne s (Ne.symm hne), gE_set_same _ hi, gE_set_ne s (by omega), gE_set_ne _ (by omega)]
        exact g
      · rw [gE_set_ne s (fun h => by omega), gE_set_ne _ (fun h => hj h.symm), gE_set_ne s (fun h => h4 h.symm), gE_set_ne _ (fun h => hp h.symm)]
        rw [gE_set_ne s (fun h => hj h.symm), gE_set_ne s (fun h => hp h.symm)] at key
        exact key
  · intro _ j h1 h2 h3
    rw [List.length_set] at h2
    refine ⟨by rw [hpc.2]; exact I.ge, ?_⟩
    rw [hpc.2, gE_set_same _ hi, gE_set_ne _ (by omega)]
    have key := I.heap j h1 h2 (by have := I.ge; omega) (by omega)
    rw [gE_set_ne s (by omega), gE_set_ne s (by omega), h3] at key
    exact key

/-- nothing below s among the children: s comes to rest. -/
theorem down_end {i0 : Nat} {xs0 xs : List (Int × Int)} {s : Int × Int} {i : Nat} (I : DownInv i0 xs0 s xs i)
    (hend : ∀ j, 1 ≤ j → j < xs.length → (j - 1) / 2 = i → ltE (gE xs j) s = false) : HeapFrom i0 (xs.set i s) ∧ (xs.set i s).Perm (xs0.set i0 s) := by
  refine ⟨?_, I.perm⟩
  intro j h1 h2 h3
  rw [List.length_set] at h2
  by_cases hp : (j - 1) / 2 = i
  · rw [hp, gE_set_same s I.lt, gE_set_ne s (by omega)]
    exact hend j h1 h2 hp
  · exact I.heap j h1 h2 h3 hp

/-! UP (push). -/
structure UpInv (xs0 : List (Int × Int)) (s : Int × Int) (xs : List (Int × Int)) (i : Nat) : Prop where
  len : xs.length = xs0.length + 1
  lt : i < xs.length
  perm : (xs.set i s).Perm (xs0 ++ [s])
  heap : ∀ j, 1 ≤ j → j < xs.length → j ≠ i → ltE (gE (xs.set i s) j) (gE (xs.set i s) ((j - 1) / 2)) = false
  grand : 1 ≤ i → ∀ j, 1 ≤ j → j < xs.length → (j - 1) / 2 = i → ltE (gE xs j) (gE xs ((i - 1) / 2)) = false

theorem up_start {xs0 : List (Int × Int)} (s : Int × Int) (hh : HeapFrom 0 xs0) : UpInv xs0 s (xs0 ++ [s]) xs0.length := by
  have e : (xs0 ++ [s]).set xs0.length s = xs0 ++ [s] := by
    rw [List.set_append_right _ _ (Nat.le_refl _), Nat.sub_self]; rfl
  refine ⟨by simp, by simp, by rw [e], ?_, ?_⟩
  · intro j h1 h2 h3
    rw [e]
    simp at h2
    have ga : ∀ k, k < xs0.length → gE (xs0 ++ [s]) k = gE xs0 k := fun k hk => by
      rw [gE_eq (by simp; omega), gE_eq hk, List.getElem_append_left hk]
    rw [ga j (by omega), ga _ (by omega)]
    exact hh j h1 (by omega) (by omega)
  · intro _ j h1 h2 h3
    simp at h2
    omega

theorem up_step {xs0 xs : List (Int × Int)} {s : Int × Int} {i : Nat} (I : UpInv xs0 s xs i) (h1 : 1 ≤ i) (hlt : ltE s (gE xs ((i - 1) / 2)) = true) :
    UpInv xs0 s (xs.set i (gE xs ((i - 1) / 2))) ((i - 1) / 2) := by
  have hi := I.lt
  have hp : (i - 1) / 2 < xs.length := by omega
  have hne : i ≠ (i - 1) / 2 := by omega
  refine ⟨by rw [List.length_set]; exact I.len, by simpa using hp, (perm_move s hi hp hne).trans I.perm, ?_, ?_⟩
  · intro j k1 k2 k3
    rw [List.length_set] at k2
    have key := I.heap j k1 k2
    by_cases hj : j = i
    · subst hj
      rw [gE_set_ne s (Ne.symm hne), gE_set_same _ hi, gE_set_same s (by simpa using hp)]
      exact lt_asymm hlt
    · have key := key hj
      rw [gE_set_ne s (Ne.symm k3), gE_set_ne _ (fun h => hj h.symm)]
      rw [gE_set_ne s (fun h => hj h.symm)] at key
      by_cases hq : (j - 1) / 2 = i
      · rw [hq, gE_set_ne s (Ne.symm hne), gE_set_same _ hi]
        exact I.grand h1 j k1 k2 hq
      · rw [gE_set_ne s (fun h => hq h.symm)] at key
        by_cases hq2 : (j - 1) / 2 = (i - 1) / 2
        · rw [hq2, gE_set_same s (by simpa using hp)]
          rw [hq2] at key
          exact le_trans (lt_asymm hlt) key
        · rw [gE_set_ne s (fun h => hq2 h.symm), gE_set_ne _ (fun h => hq h.symm)]
          exact key
  · intro k0 j k1 k2 k3
    rw [List.length_set] at k2
    have kp := I.heap ((i - 1) / 2) k0 hp (Ne.symm hne)
    rw [gE_set_ne s hne, gE_set_ne s (by omega)] at kp
    rw [gE_set_ne (xs := xs) _ (show i ≠ ((i - 1) / 2 - 1) / 2 by omega)]
    by_cases hj : j = i
    · subst hj
      rw [gE_set_same _ hi]; exact kp
    · rw [gE_set_ne _ (fun h => hj h.symm)]
      have key := I.heap j k1 k2 hj
      rw [gE_set_ne s (fun h => hj h.symm), k3, gE_set_ne s hne] at key
      exact le_trans kp key

theorem up_end {xs0 xs : List (Int × Int)} {s : Int × Int} {i : Nat} (I : UpInv xs0 s xs i) (he : 1 ≤ i → ltE s (gE xs ((i - 1) / 2)) = false) :
    HeapFrom 0 (xs.set i s) ∧ (xs.set i s).Perm (xs0 ++ [s]) := by
  refine ⟨?_, I.perm⟩
  intro j h1 h2 _
  rw [List.length_set] at h2
  by_cases hj : j = i
  · subst hj
    rw [gE_set_same s I.lt, gE_set_ne s (by omega)]
    exact he h1
  · exact I.heap j h1 h2 hj

/-- the root of a heap is not above any entry. -/
theorem heap_root {xs : List (Int × Int)} (hh : HeapFrom 0 xs) : ∀ j, j < xs.length → ltE (gE xs j) (gE xs 0) = false := by
  intro j
  induction j using Nat.strongRecOn with
  | _ j ih =>
    intro hj
    by_cases h0 : j = 0
    · subst h0; exact lt_irrefl _
    · exact le_trans (ih ((j - 1) / 2) (by omega) (by omega)) (hh j (by omega) hj (by omega))

/-! SORTED -/
def SortedE (xs : List (Int × Int)) : Prop := xs.Pairwise (fun a b => ltE b a = false)
theorem sorted_unique {xs ys : List (Int × Int)} (h1 : SortedE xs) (h2 : SortedE ys) (hp : xs.Perm ys) : xs = ys :=
  List.Perm.eq_of_pairwise (le := fun a b => ltE b a = false) (fun a b _ _ h h' => le_antisymm h h') h1 h2 hp

/-- the insertion: places up to i, the entry that moves down stands at j. -/
structure InsInv (xs0 : List (Int × Int)) (i : Nat) (xs : List (Int × Int)) (j : Nat) : Prop where
  len : xs.length = xs0.length
  lt : i < xs.length
  le : j ≤ i
  perm : xs.Perm xs0
  ord : ∀ a b, a < b → b ≤ i → b ≠ j → ltE (gE xs b) (gE xs a) = false

def SortedTo (xs : List (Int × Int)) (i : Nat) : Prop := ∀ a b, a < b → b < i → ltE (gE xs b) (gE xs a) = false

theorem ins_start {xs0 xs : List (Int × Int)} {i : Nat} (hl : xs.length = xs0.length) (hi : i < xs.length) (hp : xs.Perm xs0) (hs : SortedTo xs i) : InsInv xs0 i xs i :=
  ⟨hl, hi, Nat.le_refl _, hp, fun a b h1 h2 h3 => hs a b h1 (by omega)⟩
theorem ins_step {xs0 xs : List (Int × Int)} {i j : Nat} (I : InsInv xs0 i xs j) (hj : 1 ≤ j) (hlt : ltE (gE xs j) (gE xs (j - 1)) = true) :
    InsInv xs0 i ((xs.set j (gE xs (j - 1))).set (j - 1) (gE xs j)) (j - 1) := by
  have hlen := I.lt
  have hle := I.le
  have hjl : j < xs.length := by omega
  have hp : ((xs.set j (gE xs (j - 1))).set (j - 1) (gE xs j)).Perm xs := by
    have h := set_swap xs j (j - 1) hjl (by omega)
    rw [← gE_eq hjl, ← gE_eq (show j - 1 < xs.length by omega)] at h
    exact h
  have g1 : gE ((xs.set j (gE xs (j - 1))).set (j - 1) (gE xs j)) (j - 1) = gE xs j := gE_set_same _ (by rw [List.length_set]; omega)
  have g2 : gE ((xs.set j (gE xs (j - 1))).set (j - 1) (gE xs j)) j = gE xs (j - 1) := by rw [gE_set_ne _ (by omega), gE_set_same _ hjl]
  have g3 : ∀ k, k ≠ j → k ≠ j - 1 → gE ((xs.set j (gE xs (j - 1))).set (j - 1) (gE xs j)) k = gE xs k := fun k h1 h2 => by rw [gE_set_ne _ (Ne.symm h2), gE_set_ne _ (Ne.symm h1)]
  refine ⟨by rw [List.length_set, List.length_set]; exact I.len, by rw [List.length_set, List.length_set]; exact hlen, by omega, hp.trans I.perm, ?_⟩
  generalize (xs.set j (gE xs (j - 1))).set (j - 1) (gE xs j) = zs at g1 g2 g3
  intro a b h1 h2 h3
  by_cases hb : b = j
  · subst hb
    rw [g2]
    by_cases ha : a = b - 1
    · subst ha; rw [g1]; exact lt_asymm hlt
    · rw [g3 a (by omega) ha]
      exact I.ord a (b - 1) (by omega) (by omega) (by omega)
  · rw [g3 b hb h3]
    by_cases ha : a = j
    · subst ha; rw [g2]; exact I.ord (a - 1) b (by omega) h2 hb
    · by_cases ha2 : a = j - 1
      · subst ha2; rw [g1]; exact I.ord j b (by omega) h2 hb
      · rw [g3 a ha ha2]; exact I.ord a b h1 h2 hb
theorem ins_end {xs0 xs : List (Int × Int)} {i j : Nat} (I : InsInv xs0 i xs j) (he : 1 ≤ j → ltE (gE xs j) (gE xs (j - 1)) = false) : SortedTo xs (i + 1) := by
  intro a b h1 h2
  by_cases hb : b = j
  · subst hb
    by_cases ha : a = b - 1
    · subst ha; exact he (by omega)
    · exact le_trans (I.ord a (b - 1) (by omega) (by omega) (by omega)) (he (by omega))
  · exact I.ord a b h1 (by omega) hb
theorem sorted_of_to {xs : List (Int × Int)} (h : SortedTo xs xs.length) : SortedE xs := by
  unfold SortedE
  rw [List.pairwise_iff_getElem]
  intro i j hi hj hij
  have := h i j hij hj
  rwa [gE_eq hi, gE_eq hj] at this
end Go.Proofs.Ybulkboha
namespace Go.Proofs.Ybulkboha
/-- which child 'down' looks at. -/
def pickT (zs : List (Int × Int)) (n k : Nat) : Bool := decide (2 * k + 2 < n) && ltE (gE zs (2 * k + 2)) (gE zs (2 * k + 1))
def pickC (zs : List (Int × Int)) (n k : Nat) : Nat := if pickT zs n k = true then 2 * k + 2 else 2 * k + 1
theorem pick_facts (zs : List (Int × Int)) (n k : Nat) (hn : zs.length = n) (h : 2 * k + 1 < n) :
    pickC zs n k < n ∧ (1 ≤ pickC zs n k ∧ (pickC zs n k - 1) / 2 = k) ∧ ∀ j, 1 ≤ j → j < zs.length → (j - 1) / 2 = k → ltE (gE zs j) (gE zs (pickC zs n k)) = false := by
  unfold pickC
  by_cases hT : pickT zs n k = true
  · rw [if_pos hT]
    unfold pickT at hT
    simp only [Bool.and_eq_true, decide_eq_true_eq] at hT
    refine ⟨hT.1, ⟨by omega, by omega⟩, fun j h1 h2 h3 => ?_⟩
    by_cases hj : j = 2 * k + 1
    · subst hj; exact lt_asymm hT.2
    · have : j = 2 * k + 2 := by omega
      subst this; exact lt_irrefl _
  · rw [if_neg hT]
    refine ⟨h, ⟨by omega, by omega⟩, fun j h1 h2 h3 => ?_⟩
    by_cases hj : j = 2 * k + 1
    · subst hj; exact lt_irrefl _
    · have : j = 2 * k + 2 := by omega
      subst this
      unfold pickT at hT
      have h4 : 2 * k + 2 < n := by omega
      simpa [h4] using hT
end Go.Proofs.Ybulkboha
namespace Go.Proofs.Ybulkboha
theorem pick_yes {zs : List (Int × Int)} {n k : Nat} (h : pickT zs n k = true) : 2 * (k : Int) + 1 + 1 = (pickC zs n k : Nat) := by
  unfold pickC; rw [if_pos h]; omega
theorem pick_no {zs : List (Int × Int)} {n k : Nat} (h : pickT zs n k = false) : 2 * (k : Int) + 1 = (pickC zs n k : Nat) := by
  unfold pickC; rw [if_neg (by rw [h]; decide)]; omega
end Go.Proofs.Ybulkboha
