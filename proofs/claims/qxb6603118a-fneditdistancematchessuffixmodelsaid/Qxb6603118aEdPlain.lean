/-
  PLAIN: the edit distance of two lists, by its own recursion; from the other end; with the shortcut at equal heads; its bounds. No Go in sight.
-/
namespace Go.Proofs.Qxb6603118a.Ed

def cost (x y : UInt8) : Nat := if x = y then 0 else 1

/-- One row of the recursion: the head x, the distance f of what follows it, its length k. -/
def row (x : UInt8) (f : List UInt8 → Nat) (k : Nat) : List UInt8 → Nat
  | [] => k + 1
  | y :: ys => min (min (f (y :: ys) + 1) (row x f k ys + 1)) (f ys + cost x y)

/-- The edit distance. -/
def ed : List UInt8 → List UInt8 → Nat
  | [], ys => ys.length
  | x :: xs, ys => row x (ed xs) xs.length ys

theorem ed_nil (ys : List UInt8) : ed [] ys = ys.length := rfl
theorem ed_cons_nil (x : UInt8) (xs : List UInt8) : ed (x :: xs) [] = xs.length + 1 := rfl
theorem ed_cons (x y : UInt8) (xs ys : List UInt8) : ed (x :: xs) (y :: ys) = min (min (ed xs (y :: ys) + 1) (ed (x :: xs) ys + 1)) (ed xs ys + cost x y) := rfl
theorem ed_nil_right (xs : List UInt8) : ed xs [] = xs.length := by
  cases xs with
  | nil => rfl
  | cons x xs => rfl

theorem cost_le (x y : UInt8) : cost x y ≤ 1 := by unfold cost; split <;> omega
theorem cost_self (x : UInt8) : cost x x = 0 := by simp [cost]
theorem cost_symm (x y : UInt8) : cost x y = cost y x := by
  unfold cost
  by_cases h : x = y
  · simp [h]
  · rw [if_neg h, if_neg (fun e => h e.symm)]

/-- One more on the right costs at most one. -/
theorem ed_ins (xs : List UInt8) (y : UInt8) (ys : List UInt8) : ed xs (y :: ys) ≤ ed xs ys + 1 := by
  cases xs with
  | nil => simp [ed_nil]
  | cons x xs => rw [ed_cons]; omega
/-- One more on the left saves at most one. -/
theorem ed_del (x : UInt8) (xs : List UInt8) : ∀ ys, ed xs ys ≤ ed (x :: xs) ys + 1 := by
  intro ys
  induction ys with
  | nil => rw [ed_nil_right, ed_cons_nil]; omega
  | cons y ys ih =>
    have h := ed_ins xs y ys
    rw [ed_cons]; omega

theorem ed_symm : ∀ xs ys : List UInt8, ed xs ys = ed ys xs := by
  intro xs
  induction xs with
  | nil => intro ys; rw [ed_nil, ed_nil_right]
  | cons x xs ih =>
    intro ys
    induction ys with
    | nil => rw [ed_nil_right]; rfl
    | cons y ys ih2 =>
      have h1 := ih (y :: ys)
      have h2 := ih ys
      rw [ed_cons, ed_cons, cost_symm y x, h1, h2, ih2]
      omega
theorem ed_sub (xs : List UInt8) (y : UInt8) (ys : List UInt8) : ed xs ys ≤ ed xs (y :: ys) + 1 := by
  rw [ed_symm xs ys, ed_symm xs (y :: ys)]
  exact ed_del y ys xs

/-- The shortcut at equal heads. -/
theorem ed_same (x : UInt8) (xs ys : List UInt8) : ed (x :: xs) (x :: ys) = ed xs ys := by
  have h1 := ed_sub xs x ys
  have h2 := ed_del x xs ys
  rw [ed_cons, cost_self]; omega
theorem ed_other (x y : UInt8) (xs ys : List UInt8) (h : x ≠ y) : ed (x :: xs) (y :: ys) = 1 + min (min (ed xs (y :: ys)) (ed (x :: xs) ys)) (ed xs ys) := by
  rw [ed_cons]
  have : cost x y = 1 := by simp [cost, h]
  omega

/-- The recursion from the other end. -/
theorem nine (a1 a2 a3 b1 b2 b3 d1 d2 d3 u v p1 p2 p3 q1 q2 q3 : Nat)
    (h1 : p1 = min (min (a1 + 1) (a2 + 1)) (a3 + u)) (h2 : p2 = min (min (b1 + 1) (b2 + 1)) (b3 + u)) (h3 : p3 = min (min (d1 + 1) (d2 + 1)) (d3 + u))
    (k1 : q1 = min (min (a1 + 1) (b1 + 1)) (d1 + v)) (k2 : q2 = min (min (a2 + 1) (b2 + 1)) (d2 + v)) (k3 : q3 = min (min (a3 + 1) (b3 + 1)) (d3 + v)) :
    min (min (p1 + 1) (p2 + 1)) (p3 + v) = min (min (q1 + 1) (q2 + 1)) (q3 + u) := by
  have e : ∀ a b c : Nat, min (min a b) c ≤ a ∧ min (min a b) c ≤ b ∧ min (min a b) c ≤ c ∧ (min (min a b) c = a ∨ min (min a b) c = b ∨ min (min a b) c = c) := fun a b c => by omega
  apply Nat.le_antisymm
  · have p1' := e (a1 + 1) (a2 + 1) (a3 + u); rw [← h1] at p1'
    have p2' := e (b1 + 1) (b2 + 1) (b3 + u); rw [← h2] at p2'
    have p3' := e (d1 + 1) (d2 + 1) (d3 + u); rw [← h3] at p3'
    have q1' := e (a1 + 1) (b1 + 1) (d1 + v); rw [← k1] at q1'
    have q2' := e (a2 + 1) (b2 + 1) (d2 + v); rw [← k2] at q2'
    have q3' := e (a3 + 1) (b3 + 1) (d3 + v); rw [← k3] at q3'
    have l := e (p1 + 1) (p2 + 1) (p3 + v)
    have r := e (q1 + 1) (q2 + 1) (q3 + u)
    generalize min (min (p1 + 1) (p2 + 1)) (p3 + v) = L at l ⊢
    generalize min (min (q1 + 1) (q2 + 1)) (q3 + u) = R at r ⊢
    clear h1 h2 h3 k1 k2 k3
    obtain ⟨l1, l2, l3, _⟩ := l
    obtain ⟨_, _, _, r⟩ := r
    obtain ⟨p11, p12, p13, _⟩ := p1'
    obtain ⟨p21, p22, p23, _⟩ := p2'
    obtain ⟨p31, p32, p33, _⟩ := p3'
    obtain ⟨_, _, _, q1'⟩ := q1'
    obtain ⟨_, _, _, q2'⟩ := q2'
    obtain ⟨_, _, _, q3'⟩ := q3'
    rcases r with r | r | r
    · rcases q1' with h | h | h <;> omega
    · rcases q2' with h | h | h <;> omega
    · rcases q3' with h | h | h <;> omega
  · have p1' := e (a1 + 1) (a2 + 1) (a3 + u); rw [← h1] at p1'
    have p2' := e (b1 + 1) (b2 + 1) (b3 + u); rw [← h2] at p2'
    have p3' := e (d1 + 1) (d2 + 1) (d3 + u); rw [← h3] at p3'
    have q1' := e (a1 + 1) (b1 + 1) (d1 + v); rw [← k1] at q1'
    have q2' := e (a2 + 1) (b2 + 1) (d2 + v); rw [← k2] at q2'
    have q3' := e (a3 + 1) (b3 + 1) (d3 + v); rw [← k3] at q3'
    have l := e (p1 + 1) (p2 + 1) (p3 + v)
    have r := e (q1 + 1) (q2 + 1) (q3 + u)
    generalize min (min (p1 + 1) (p2 + 1)) (p3 + v) = L at l ⊢
    generalize min (min (q1 + 1) (q2 + 1)) (q3 + u) = R at r ⊢
    clear h1 h2 h3 k1 k2 k3
    obtain ⟨r1, r2, r3, _⟩ := r
    obtain ⟨_, _, _, l⟩ := l
    obtain ⟨_, _, _, p1'⟩ := p1'
    obtain ⟨_, _, _, p2'⟩ := p2'
    obtain ⟨_, _, _, p3'⟩ := p3'
    obtain ⟨q11, q12, q13, _⟩ := q1'
    obtain ⟨q21, q22, q23, _⟩ := q2'
    obtain ⟨q31, q32, q33, _⟩ := q3'
    rcases l with l | l | l
    · rcases p1' with h | h | h <;> omega
    · rcases p2' with h | h | h <;> omega
    · rcases p3' with h | h | h <;> omega

theorem ed_snoc (x y : UInt8) : ∀ as bs : List UInt8, ed (as ++ [x]) (bs ++ [y]) = min (min (ed as (bs ++ [y]) + 1) (ed (as ++ [x]) bs + 1)) (ed as bs + cost x y) := by
  intro as
  induction as with
  | nil =>
    intro bs
    induction bs with
    | nil => simp [ed_cons, ed_nil, ed_cons_nil]
    | cons b bs ih =>
      simp only [List.nil_append, List.cons_append, ed_cons, ed_nil, List.length_append, List.length_cons, List.length_nil] at ih ⊢
      omega
  | cons a as iha =>
    intro bs
    induction bs with
    | nil =>
      have h1 := iha []
      simp only [List.nil_append, List.cons_append, ed_cons, ed_nil_right, List.length_append, List.length_cons, List.length_nil] at h1 ⊢
      omega
    | cons b bs ihb =>
      have h1 := iha (b :: bs)
      have h3 := iha bs
      simp only [List.cons_append] at h1 h3 ihb ⊢
      rw [ed_cons a b (as ++ [x]) (bs ++ [y])]
      exact nine _ _ _ _ _ _ _ _ _ _ _ _ _ _ _ _ _ h1 ihb h3 (ed_cons a b as (bs ++ [y])) (ed_cons a b (as ++ [x]) bs) (ed_cons a b as bs)
theorem ed_snoc_nil (as : List UInt8) : ed as [] = as.length := ed_nil_right as

/-! ### Bounds -/
theorem ed_zero : ∀ xs ys : List UInt8, ed xs ys = 0 ↔ xs = ys := by
  intro xs
  induction xs with
  | nil => intro ys; rw [ed_nil]; cases ys <;> simp
  | cons x xs ih =>
    intro ys
    cases ys with
    | nil => rw [ed_cons_nil]; simp
    | cons y ys =>
      by_cases e : x = y
      · subst e
        rw [ed_same, ih]; simp
      · rw [ed_other x y xs ys e]; simp [e]

theorem ed_lo : ∀ xs ys : List UInt8, xs.length ≤ ed xs ys + ys.length ∧ ys.length ≤ ed xs ys + xs.length := by
  intro xs
  induction xs with
  | nil => intro ys; rw [ed_nil]; simp
  | cons x xs ih =>
    intro ys
    induction ys with
    | nil => rw [ed_cons_nil]; simp
    | cons y ys ih2 =>
      have h1 := ih (y :: ys)
      have h2 := ih ys
      rw [ed_cons]
      simp only [List.length_cons] at *
      omega
theorem ed_hi : ∀ xs ys : List UInt8, ed xs ys ≤ max xs.length ys.length := by
  intro xs
  induction xs with
  | nil => intro ys; rw [ed_nil]; simp
  | cons x xs ih =>
    intro ys
    cases ys with
    | nil => rw [ed_cons_nil]; simp
    | cons y ys =>
      have h2 := ih ys
      have h3 := cost_le x y
      rw [ed_cons]
      simp only [List.length_cons]
      omega

/-- The Hamming distance of the first k places. -/
def ham (xs ys : List UInt8) : Nat → Nat
  | 0 => 0
  | k + 1 => ham xs ys k + cost (xs.getD k 0) (ys.getD k 0)

theorem ed_ham (xs ys : List UInt8) : ∀ k, k ≤ xs.length → k ≤ ys.length → ed (xs.take k) (ys.take k) ≤ ham xs ys k := by
  intro k
  induction k with
  | zero => intro _ _; simp [ed_nil]
  | succ k ih =>
    intro h1 h2
    have h := ih (by omega) (by omega)
    have e1 : xs.take (k + 1) = xs.take k ++ [xs.getD k 0] := by
      rw [List.take_succ_eq_append_getElem (by omega)]; simp [List.getD, show k < xs.length by omega]
    have e2 : ys.take (k + 1) = ys.take k ++ [ys.getD k 0] := by
      rw [List.take_succ_eq_append_getElem (by omega)]; simp [List.getD, show k < ys.length by omega]
    rw [e1, e2, ed_snoc]
    simp only [ham]
    omega
/-! ### The table by prefixes -/
/-- The distance of a's first i bytes to b's first j bytes. -/
def E (a b : ByteArray) (i j : Nat) : Nat := ed (a.data.toList.take i) (b.data.toList.take j)

theorem take_snoc (s : ByteArray) (k : Nat) (h : k < s.size) : s.data.toList.take (k + 1) = s.data.toList.take k ++ [s[k]] := by
  rw [List.take_succ_eq_append_getElem (by simpa using h)]; rfl
theorem E_left (a b : ByteArray) (j : Nat) (h : j ≤ b.size) : E a b 0 j = j := by
  have hl : b.data.toList.length = b.size := by simp
  simp only [E, List.take_zero, ed_nil, List.length_take]
  omega
theorem E_right (a b : ByteArray) (i : Nat) (h : i ≤ a.size) : E a b i 0 = i := by
  have hl : a.data.toList.length = a.size := by simp
  simp only [E, List.take_zero, ed_nil_right, List.length_take]
  omega
theorem E_step (a b : ByteArray) (i j : Nat) (hi : i < a.size) (hj : j < b.size) : E a b (i + 1) (j + 1) = min (min (E a b i (j + 1) + 1) (E a b (i + 1) j + 1)) (E a b i j + cost a[i] b[j]) := by
  unfold E
  rw [take_snoc a i hi, take_snoc b j hj, ed_snoc]
theorem E_all (a b : ByteArray) : E a b a.size b.size = ed a.data.toList b.data.toList := by
  have h1 : a.data.toList.take a.size = a.data.toList := List.take_of_length_le (by simp)
  have h2 : b.data.toList.take b.size = b.data.toList := List.take_of_length_le (by simp)
  unfold E
  rw [h1, h2]
theorem E_le (a b : ByteArray) (i j : Nat) : E a b i j ≤ max a.size b.size := by
  have h := ed_hi (a.data.toList.take i) (b.data.toList.take j)
  have hl : a.data.toList.length = a.size := by simp
  have hl2 : b.data.toList.length = b.size := by simp
  simp only [List.length_take] at h
  unfold E
  omega
theorem cost_bytes (x y : UInt8) : cost x y = if (x.toNat : Int) = (y.toNat : Int) then 0 else 1 := by
  unfold cost
  by_cases h : x = y
  · simp [h]
  · have : ¬ (x.toNat : Int) = (y.toNat : Int) := fun e => h (UInt8.toNat_inj.1 (by omega))
    simp [h, this]
end Go.Proofs.Qxb6603118a.Ed
