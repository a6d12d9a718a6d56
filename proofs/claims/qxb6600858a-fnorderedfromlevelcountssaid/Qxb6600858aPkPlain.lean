/-
  PLAIN: how packLevel shares m values out. No Go in sight.
-/
namespace Go.Proofs.Qxb6600858a.Pk

/-- How many nodes. -/
def cnt (m : Nat) : Nat := (m + 64) / 64
/-- How many values lie in the nodes (the others lie between them). -/
def held (m : Nat) : Nat := m - (cnt m - 1)
def quo (m : Nat) : Nat := held m / cnt m
def rem (m : Nat) : Nat := held m % cnt m
/-- How many values node i takes. -/
def tk (m i : Nat) : Nat := quo m + if i < rem m then 1 else 0
/-- How many values the first i nodes take. -/
def ps (m i : Nat) : Nat := i * quo m + min i (rem m)
/-- Where node i's window begins. -/
def pos (m i : Nat) : Nat := ps m i + i

theorem cnt_pos (m : Nat) : 1 ≤ cnt m := by unfold cnt; omega
theorem cnt_lo (m : Nat) : 64 * cnt m ≤ m + 64 := by unfold cnt; omega
theorem cnt_hi (m : Nat) : m < 64 * cnt m := by unfold cnt; omega
theorem cnt_le (m : Nat) : cnt m ≤ m + 1 := by unfold cnt; omega
theorem cnt_add (m : Nat) : held m + cnt m = m + 1 := by
  have := cnt_pos m
  have := cnt_le m
  unfold held; omega
theorem held_le (m : Nat) : held m ≤ 63 * cnt m := by
  have := cnt_hi m
  have := cnt_add m
  omega
theorem rem_lt (m : Nat) : rem m < cnt m := Nat.mod_lt _ (cnt_pos m)
theorem div_mod (m : Nat) : cnt m * quo m + rem m = held m := Nat.div_add_mod _ _

theorem ps_zero (m : Nat) : ps m 0 = 0 := by simp [ps]
theorem ps_succ (m i : Nat) : ps m (i + 1) = ps m i + tk m i := by
  unfold ps tk
  rw [Nat.succ_mul]
  split <;> omega
theorem ps_end (m : Nat) : ps m (cnt m) = held m := by
  have := rem_lt m
  have := div_mod m
  unfold ps
  omega
theorem pos_zero (m : Nat) : pos m 0 = 0 := by simp [pos, ps_zero]
theorem pos_succ (m i : Nat) : pos m (i + 1) = pos m i + tk m i + 1 := by
  unfold pos; rw [ps_succ]; omega
theorem pos_end (m : Nat) : pos m (cnt m) = m + 1 := by
  unfold pos; rw [ps_end]; exact cnt_add m

theorem quo_le (m : Nat) : quo m ≤ 63 := by
  have h := held_le m
  have := cnt_pos m
  unfold quo
  exact Nat.div_le_of_le_mul (by rw [Nat.mul_comm]; exact h)
theorem tk_le (m i : Nat) : tk m i ≤ 63 := by
  have h1 := quo_le m
  by_cases h : quo m = 63
  · have hd := div_mod m
    have hh := held_le m
    rw [h] at hd
    have : rem m = 0 := by omega
    simp [tk, this, h]
  · unfold tk; split <;> omega
theorem quo_ge (m : Nat) (h : 2 ≤ cnt m) : 31 ≤ quo m := by
  unfold quo
  rw [Nat.le_div_iff_mul_le (by omega)]
  have := cnt_lo m
  have := cnt_add m
  omega
theorem tk_ge (m i : Nat) (h : 2 ≤ cnt m) : 31 ≤ tk m i := by
  have := quo_ge m h
  unfold tk; omega
theorem tk_mono (m i : Nat) : tk m (i + 1) ≤ tk m i := by
  unfold tk
  split <;> split <;> omega
theorem tk_spread (m i j : Nat) : tk m i ≤ tk m j + 1 := by
  unfold tk
  split <;> split <;> omega

theorem pos_mono (m : Nat) : ∀ {i j : Nat}, i ≤ j → pos m i ≤ pos m j := by
  intro i j h
  induction j with
  | zero => have : i = 0 := by omega
            subst this; exact Nat.le_refl _
  | succ j ih =>
    by_cases e : i = j + 1
    · subst e; exact Nat.le_refl _
    · have := ih (by omega)
      rw [pos_succ]; omega
/-- The window of node i lies in the values. -/
theorem pos_in (m i : Nat) (h : i < cnt m) : pos m i + tk m i ≤ m := by
  have h1 := pos_mono m (show i + 1 ≤ cnt m by omega)
  rw [pos_succ, pos_end] at h1
  omega
/-- The last window ends where the values end. -/
theorem pos_last (m i : Nat) (h : i + 1 = cnt m) : pos m i + tk m i = m := by
  have h1 := pos_succ m i
  rw [h, pos_end] at h1
  omega
/-- A window that is not the last leaves a value between and 31 more at least. -/
theorem pos_more (m i : Nat) (h : i + 1 < cnt m) : pos m i + tk m i + 1 + 31 ≤ m := by
  have h1 := pos_in m (i + 1) (by omega)
  have h2 := tk_ge m (i + 1) (by omega)
  rw [pos_succ] at h1
  omega
theorem cnt_bound (m : Nat) (h : m ≤ 65536) : cnt m ≤ 1025 := by unfold cnt; omega

/-- The sum of f over n places from a on. -/
def sumTo (f : Nat → Nat) (a : Nat) : Nat → Nat
  | 0 => 0
  | n + 1 => sumTo f a n + f (a + n)
theorem sumTo_add (f : Nat → Nat) (a n k : Nat) : sumTo f a (n + k) = sumTo f a n + sumTo f (a + n) k := by
  induction k with
  | zero => rfl
  | succ k ih => rw [← Nat.add_assoc]; simp only [sumTo]; rw [ih]; simp only [Nat.add_assoc]
theorem sumTo_le (f : Nat → Nat) (b a n : Nat) (h : ∀ i, a ≤ i → i < a + n → f i ≤ b) : sumTo f a n ≤ n * b := by
  induction n with
  | zero => simp [sumTo]
  | succ n ih =>
    have h1 := ih (fun i h1 h2 => h i h1 (by omega))
    have h2 := h (a + n) (by omega) (by omega)
    simp only [sumTo]
    rw [Nat.succ_mul]
    omega
theorem sumTo_tk (m i : Nat) : sumTo (tk m) 0 i = ps m i := by
  induction i with
  | zero => simp [sumTo, ps_zero]
  | succ i ih => simp only [sumTo]; rw [ih, ps_succ]; simp
theorem sumTo_congr {f g : Nat → Nat} (a n : Nat) (h : ∀ i, a ≤ i → i < a + n → f i = g i) : sumTo f a n = sumTo g a n := by
  induction n with
  | zero => rfl
  | succ n ih =>
    simp only [sumTo]
    rw [ih (fun i h1 h2 => h i h1 (by omega)), h (a + n) (by omega) (by omega)]

end Go.Proofs.Qxb6600858a.Pk
