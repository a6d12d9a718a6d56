/-
  PLAIN: what 'commonType' and the set model compute, as functions on lists of integers, and the laws on them. No Go in sight.
-/
namespace Go.Proofs.Qxb6600858a.Ct

/-- One step of commonType: the common type so far, the next type; none: no common type. -/
def stp (c t : Int) : Option Int :=
  if t = 0 ∨ t = c then some c
  else if c = 0 then some t
  else if (t = 2 ∨ t = 3) ∧ (c = 2 ∨ c = 3) then some 3
  else none

/-- commonType from the state (c, i) on. -/
def ct (c i : Int) : List Int → Int × Int
  | [] => (if c = 0 then 4 else c, -1)
  | t :: r => match stp c t with
    | some c' => ct c' (i + 1) r
    | none => (c, i)

theorem stp_none {c t : Int} (h : stp c t = none) : c ≠ 0 := by
  unfold stp at h
  split at h
  · cases h
  · split at h
    · cases h
    · assumption

theorem ct_cons_some {c t c' : Int} (i : Int) (r : List Int) (h : stp c t = some c') : ct c i (t :: r) = ct c' (i + 1) r := by
  simp [ct, h]

theorem ct_cons_none {c t : Int} (i : Int) (r : List Int) (h : stp c t = none) : ct c i (t :: r) = (c, i) := by
  simp [ct, h]

theorem stp_keep {c t : Int} (h : t = 0 ∨ t = c) : stp c t = some c := by simp [stp, h]
theorem stp_first {c t : Int} (h : ¬ (t = 0 ∨ t = c)) (hc : c = 0) : stp c t = some t := by simp only [stp, if_neg h, if_pos hc]
theorem stp_big {c t : Int} (h : ¬ (t = 0 ∨ t = c)) (hc : ¬ c = 0) (hi : (t = 2 ∨ t = 3) ∧ (c = 2 ∨ c = 3)) : stp c t = some 3 := by simp only [stp, if_neg h, if_neg hc, if_pos hi]
theorem stp_no {c t : Int} (h : ¬ (t = 0 ∨ t = c)) (hc : ¬ c = 0) (hi : ¬ ((t = 2 ∨ t = 3) ∧ (c = 2 ∨ c = 3))) : stp c t = none := by simp only [stp, if_neg h, if_neg hc, if_neg hi]

/-- One round more. -/
theorem ct_go {zs : List Int} {x t c : Int} {k : Nat} (h : ct 0 0 zs = ct x k (zs.drop k)) (hd : zs.drop k = t :: zs.drop (k + 1)) (hs : stp x t = some c) :
    ct 0 0 zs = ct c ((k + 1 : Nat) : Int) (zs.drop (k + 1)) := by
  rw [h, hd, ct_cons_some _ _ hs]; rfl
theorem ct_stop {zs : List Int} {x t : Int} {k : Nat} (h : ct 0 0 zs = ct x k (zs.drop k)) (hd : zs.drop k = t :: zs.drop (k + 1)) (hs : stp x t = none) :
    ct 0 0 zs = (x, (k : Int)) := by
  rw [h, hd, ct_cons_none _ _ hs]
theorem ct_end {zs : List Int} {x : Int} {k : Nat} (h : ct 0 0 zs = ct x k (zs.drop k)) (hk : zs.length ≤ k) : ct 0 0 zs = (if x = 0 then 4 else x, -1) := by
  rw [h, List.drop_of_length_le hk]; rfl

/-- The prefix law, from any state on. -/
theorem ct_prefix (zs : List Int) : ∀ c i : Int, (ct c i zs).1 ≠ 0 ∧
    ((ct c i zs).2 = -1 ∨ ∃ k : Nat, k < zs.length ∧ (ct c i zs).2 = i + k ∧ ct c i (zs.take k) = ((ct c i zs).1, -1) ∧ ct c i (zs.take (k + 1)) = ((ct c i zs).1, i + k)) := by
  induction zs with
  | nil =>
    intro c i
    refine ⟨?_, .inl rfl⟩
    simp only [ct]
    split <;> omega
  | cons t r ih =>
    intro c i
    cases h : stp c t with
    | some c' =>
      obtain ⟨h1, h2⟩ := ih c' (i + 1)
      rw [ct_cons_some i r h]
      refine ⟨h1, ?_⟩
      rcases h2 with h2 | ⟨k, hk, e1, e2, e3⟩
      · exact .inl h2
      · refine .inr ⟨k + 1, by simpa using hk, by rw [e1]; push_cast; omega, ?_, ?_⟩
        · rw [List.take_succ_cons, ct_cons_some i _ h, e2]
        · rw [List.take_succ_cons, ct_cons_some i _ h, e3]
          congr 1
          push_cast; omega
    | none =>
      have hc := stp_none h
      rw [ct_cons_none i r h]
      refine ⟨hc, .inr ⟨0, by simp, by simp, ?_, ?_⟩⟩
      · simp [ct, hc]
      · simp [ct, h]

end Go.Proofs.Qxb6600858a.Ct
