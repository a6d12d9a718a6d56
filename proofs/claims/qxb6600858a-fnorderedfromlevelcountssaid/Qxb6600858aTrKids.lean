/-
  PLAIN: what the loop over a node's children adds up. No Go in sight.
-/
import Derived.Test.Qxb6600858aTrPlain
namespace Go.Proofs.Qxb6600858a.Tr
open Go.Proofs.Qxb6600858a

/-- The counts by depth when j children have been walked. -/
def CK (C : Nat → List Nat) (Fs : Nat → Nat → List Nat) (d q j i : Nat) : List Nat :=
  (if i = d then C d ++ [q] else C i) ++ (if d + 1 ≤ i then (List.range j).flatMap (fun c => Fs c (i - (d + 1))) else [])

theorem CK_zero (C : Nat → List Nat) (Fs : Nat → Nat → List Nat) (d q i : Nat) : CK C Fs d q 0 i = if i = d then C d ++ [q] else C i := by
  simp [CK]
theorem CK_succ (C : Nat → List Nat) (Fs : Nat → Nat → List Nat) (d q j i : Nat) : CK C Fs d q (j + 1) i = CK C Fs d q j i ++ (if d + 1 ≤ i then Fs j (i - (d + 1)) else []) := by
  unfold CK
  by_cases h : d + 1 ≤ i
  · rw [if_pos h, if_pos h, if_pos h, range_flatMap_succ, List.append_assoc]
  · rw [if_neg h, if_neg h, if_neg h]; simp
theorem CK_end (C : Nat → List Nat) (Fs : Nat → Nat → List Nat) (d q i : Nat) {F : Nat → List Nat} (hF : F = fun x => if x = 0 then [q] else (List.range (q + 1)).flatMap (fun j => Fs j (x - 1))) :
    CK C Fs d q (q + 1) i = C i ++ (if d ≤ i then F (i - d) else []) := by
  unfold CK
  by_cases e : i = d
  · subst e
    rw [if_pos rfl, if_neg (by omega), if_pos (Nat.le_refl _), Nat.sub_self, hF]
    simp
  · rw [if_neg e]
    by_cases h : d + 1 ≤ i
    · rw [if_pos h, if_pos (by omega), hF]
      have : ¬ i - d = 0 := by omega
      simp only [this, if_false]
      rw [show i - (d + 1) = i - d - 1 by omega]
    · rw [if_neg h, if_neg (by omega)]

theorem flat_len_le {f : Nat → List Nat} {a b : Nat} (h : a ≤ b) : ((List.range a).flatMap f).length ≤ ((List.range b).flatMap f).length := by
  obtain ⟨k, rfl⟩ : ∃ k, b = a + k := ⟨b - a, by omega⟩
  rw [range_flatMap_add, List.length_append]
  omega

theorem CK_budget {C : Nat → List Nat} {Fs : Nat → Nat → List Nat} {d q j B : Nat} {F : Nat → List Nat} (hF : F = fun x => if x = 0 then [q] else (List.range (q + 1)).flatMap (fun j => Fs j (x - 1))) (hb : ∀ x, (C (d + x)).length + (F x).length ≤ B) (hj : j ≤ q) (x : Nat) :
    (CK C Fs d q j (d + 1 + x)).length + (Fs j x).length ≤ B := by
  have h1 := hb (x + 1)
  rw [hF] at h1
  simp only [Nat.add_one_ne_zero, if_false, Nat.add_sub_cancel] at h1
  have h2 := flat_len_le (f := fun j => Fs j x) (show j + 1 ≤ q + 1 by omega)
  rw [range_flatMap_succ, List.length_append] at h2
  unfold CK
  rw [if_neg (by omega), if_pos (by omega), show d + 1 + x - (d + 1) = x by omega, List.length_append, show d + 1 + x = d + (x + 1) by omega]
  omega
end Go.Proofs.Qxb6600858a.Tr
