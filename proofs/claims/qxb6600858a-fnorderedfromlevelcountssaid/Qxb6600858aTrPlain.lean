/-
  PLAIN: the levels of the tree that orderedFrom builds: how many values each level holds; the counts of its nodes. No Go in sight.
-/
import Derived.Test.Qxb6600858aPkPlain
namespace Go.Proofs.Qxb6600858a.Tr
open Go.Proofs.Qxb6600858a

/-- How many values level g holds, between its nodes too (level 0: the leaves). -/
def mm (n : Nat) : Nat → Nat
  | 0 => n
  | g + 1 => Pk.cnt (mm n g) - 1

/-- The counts of the nodes of a level that holds m values. -/
def counts (m : Nat) : List Nat := (List.range (Pk.cnt m)).map (Pk.tk m)

theorem counts_length (m : Nat) : (counts m).length = Pk.cnt m := by simp [counts]
theorem counts_getD (m i : Nat) (h : i < Pk.cnt m) : (counts m).getD i 0 = Pk.tk m i := by simp [counts, List.getD, h]

theorem cnt_drop (m : Nat) (h : 2 ≤ Pk.cnt m) : Pk.cnt (Pk.cnt m - 1) < Pk.cnt m := by
  have h1 := Pk.cnt_lo (Pk.cnt m - 1)
  have h2 := Pk.cnt_hi (Pk.cnt m - 1)
  omega

/-- At most three levels. -/
theorem height_le {n h : Nat} (hn : n ≤ 65536) (hh : ∀ g, g < h → 2 ≤ Pk.cnt (mm n g)) : h ≤ 2 := by
  rcases Nat.lt_or_ge 2 h with h3 | h3
  · have h2 := hh 2 h3
    simp only [mm, Pk.cnt] at h2
    omega
  · exact h3

theorem flatMap_congr {α β : Type} {l : List α} {f g : α → List β} (h : ∀ a ∈ l, f a = g a) : l.flatMap f = l.flatMap g := by
  induction l with
  | nil => rfl
  | cons a l ih =>
    simp only [List.flatMap_cons]
    rw [h a (by simp), ih (fun b hb => h b (by simp [hb]))]

theorem range_flatMap_succ {β : Type} (k : Nat) (g : Nat → List β) : (List.range (k + 1)).flatMap g = (List.range k).flatMap g ++ g k := by
  rw [List.range_succ, List.flatMap_append]
  simp

theorem range_flatMap_add {β : Type} (a k : Nat) (g : Nat → List β) : (List.range (a + k)).flatMap g = (List.range a).flatMap g ++ (List.range k).flatMap (fun j => g (a + j)) := by
  induction k with
  | zero => simp
  | succ k ih => rw [← Nat.add_assoc, range_flatMap_succ, range_flatMap_succ, ih, List.append_assoc]

/-- The nodes' children, put side by side, are the level below. -/
theorem flat_kids {β : Type} (m : Nat) (g : Nat → List β) (k : Nat) :
    (List.range k).flatMap (fun i => (List.range (Pk.tk m i + 1)).flatMap (fun j => g (Pk.pos m i + j))) = (List.range (Pk.pos m k)).flatMap g := by
  induction k with
  | zero => simp [Pk.pos_zero]
  | succ k ih => rw [range_flatMap_succ, ih, Pk.pos_succ, Nat.add_assoc, range_flatMap_add (Pk.pos m k) (Pk.tk m k + 1)]

/-- The sizes of neighbours add up. -/
theorem sum_cut {cut : Nat → Nat} (p u : Nat) (h : ∀ j, j < u → cut (p + j) < cut (p + j + 1)) :
    Pk.sumTo (fun i => cut (i + 1) - 1 - cut i) p u + u + cut p = cut (p + u) := by
  induction u with
  | zero => simp [Pk.sumTo]
  | succ u ih =>
    have h1 := ih (fun j hj => h j (by omega))
    have h2 := h u (by omega)
    have e : p + (u + 1) = p + u + 1 := by omega
    rw [e]
    simp only [Pk.sumTo]
    omega

theorem cut_mono {cut : Nat → Nat} {c : Nat} (h : ∀ j, j < c → cut j < cut (j + 1)) : ∀ {i j : Nat}, i ≤ j → j ≤ c → cut i ≤ cut j := by
  intro i j hij hj
  induction j with
  | zero => have : i = 0 := by omega
            subst this; exact Nat.le_refl _
  | succ j ih =>
    by_cases e : i = j + 1
    · subst e; exact Nat.le_refl _
    · have h1 := ih (by omega) (by omega)
      have h2 := h j (by omega)
      omega
end Go.Proofs.Qxb6600858a.Tr
