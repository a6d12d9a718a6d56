/-
  THE WALKS of ZZeditDistance (19), zzBytes_.. (18, 21), hamming (22), and of the law FnEditDistanceIsAMetricWithinBounds (8).
-/
import Derived.Test.Qxb6603118aEdWalks
namespace Go.Proofs.Qxb6603118a
open Go.RowKit

theorem zzEdit_any (a b : ByteArray) (w : World) (ha : a.size ≤ 4096) (hb : b.size ≤ 4096) :
    Calls Try.prog 19 #[.string a, .string b] w fun e w' => e = .returned (.int .i64 (Ed.ed a.data.toList b.data.toList : Nat)) ∧ Below w.heap.size w w' := by
  go_enter Try.func19, Try.ntmps19
  go_wp2_with fail
  refine (edit_any a b w ha hb).mono ?_
  rintro e w2 ⟨rfl, hB⟩
  go_wp2
  go_ret
  exact ⟨rfl, hB⟩

theorem zzBytes18 (a b : ByteArray) (w : World) (ha : a.size ≤ maxLen) (hb : b.size ≤ maxLen) :
    Calls Try.prog 18 #[.string a, .string b] w fun e w' => e = .returned (.bool (decide (a.size + b.size ≤ 1048576))) ∧ w = w' := by
  have hL : maxLen = 9223372036854775807 := rfl
  by_cases h1 : a.size ≤ 1048576
  · by_cases h2 : b.size ≤ 1048576
    · by_cases h3 : a.size + b.size ≤ 1048576
      · rw [decide_eq_true h3]
        go_enter Try.func18, Try.ntmps18
        go_wp2
        go_ret
        exact ⟨rfl, rfl⟩
      · rw [decide_eq_false h3]
        go_enter Try.func18, Try.ntmps18
        go_wp2
        go_ret
        exact ⟨rfl, rfl⟩
    · rw [decide_eq_false (by omega)]
      go_enter Try.func18, Try.ntmps18
      go_wp2
      go_ret
      exact ⟨rfl, rfl⟩
  · rw [decide_eq_false (by omega)]
    go_enter Try.func18, Try.ntmps18
    go_wp2
    go_ret
    exact ⟨rfl, rfl⟩

theorem zzBytes21 (a b : ByteArray) (w : World) (ha : a.size ≤ maxLen) (hb : b.size ≤ maxLen) :
    Calls Try.prog 21 #[.string a, .string b] w fun e w' => e = .returned (.bool (decide (a.size + b.size ≤ 1048576))) ∧ w = w' := by
  have hL : maxLen = 9223372036854775807 := rfl
  by_cases h1 : a.size ≤ 1048576
  · by_cases h2 : b.size ≤ 1048576
    · by_cases h3 : a.size + b.size ≤ 1048576
      · rw [decide_eq_true h3]
        go_enter Try.func21, Try.ntmps21
        go_wp2
        go_ret
        exact ⟨rfl, rfl⟩
      · rw [decide_eq_false h3]
        go_enter Try.func21, Try.ntmps21
        go_wp2
        go_ret
        exact ⟨rfl, rfl⟩
    · rw [decide_eq_false (by omega)]
      go_enter Try.func21, Try.ntmps21
      go_wp2
      go_ret
      exact ⟨rfl, rfl⟩
  · rw [decide_eq_false (by omega)]
    go_enter Try.func21, Try.ntmps21
    go_wp2
    go_ret
    exact ⟨rfl, rfl⟩

theorem ham_step (a b : ByteArray) (k : Nat) (h1 : k < a.size) (h2 : k < b.size) :
    Ed.ham a.data.toList b.data.toList (k + 1) = Ed.ham a.data.toList b.data.toList k + Ed.cost a[k] b[k] := by
  have l1 : k < a.data.toList.length := by simpa using h1
  have l2 : k < b.data.toList.length := by simpa using h2
  have e1 : a.data.toList.getD k 0 = a[k] := by rw [List.getD_eq_getElem?_getD, List.getElem?_eq_getElem l1]; rfl
  have e2 : b.data.toList.getD k 0 = b[k] := by rw [List.getD_eq_getElem?_getD, List.getElem?_eq_getElem l2]; rfl
  simp only [Ed.ham, e1, e2]
theorem ham_le (xs ys : List UInt8) : ∀ k, Ed.ham xs ys k ≤ k := by
  intro k
  induction k with
  | zero => simp [Ed.ham]
  | succ k ih =>
    have := Ed.cost_le (xs.getD k 0) (ys.getD k 0)
    simp only [Ed.ham]; omega

theorem hamming_any (a b : ByteArray) (w : World) (ha : a.size ≤ 4096) (hb : a.size = b.size) :
    Calls Try.prog 22 #[.string a, .string b] w fun e w' => e = .returned (.int .i64 (Ed.ham a.data.toList b.data.toList a.size : Nat)) ∧ Below w.heap.size w w' := by
  go_enter Try.func22, Try.ntmps22
  go_wp2
  go_loopw [5, 6] (fun vd vi wr => ∃ k : Nat, k ≤ a.size ∧ vi = .int .i64 k ∧ vd = .int .i64 (Ed.ham a.data.toList b.data.toList k : Nat) ∧ Below w.heap.size w wr) (fun _ vi _ => a.size - (intOf vi).toNat)
  case atStart => exact ⟨0, Nat.zero_le _, rfl, rfl, Below.refl _ _⟩
  case round =>
    obtain ⟨k, hk, rfl, rfl, hbel⟩ := hrel
    by_cases hlt : k < a.size
    · have hs := ham_step a b k hlt (by omega)
      have hc := Ed.cost_bytes a[k] (b[k]'(by omega))
      rw [hc] at hs
      have HS : Hid (Ed.ham a.data.toList b.data.toList (k + 1) = Ed.ham a.data.toList b.data.toList k + if (a[k].toNat : Int) = (b[k].toNat : Int) then 0 else 1) := hs
      have hl := ham_le a.data.toList b.data.toList k
      have b2 : (k : Int) < (a.size : Int) := by omega
      have b3 : (k : Int) < (b.size : Int) := by omega
      have b4 : k < b.size := by omega
      clear hs hc
      go_wp2
      go_quiet (fail)
      go_wp2
      · go_roundw
        case rel =>
          refine ⟨k + 1, by omega, by go_num, ?_, below_drewAny hbel _⟩
          have hne : ((a[k].toNat : Int) != (b[k].toNat : Int)) = true := by assumption
          rw [HS.out, if_neg (by simpa using hne)]
          rfl
        case measure => simp [intOf]; omega
      · go_roundw
        case rel =>
          refine ⟨k + 1, by omega, by go_num, ?_, below_drewAny hbel _⟩
          have hne : ((a[k].toNat : Int) != (b[k].toNat : Int)) = false := by assumption
          rw [HS.out, if_pos (by simpa using hne)]
          rfl
        case measure => simp [intOf]; omega
    · have hk' : k = a.size := by omega
      subst hk'
      go_wp2
      go_ret
      exact ⟨rfl, hbel⟩


theorem metric_walk (a b : ByteArray) (wa : a.size ≤ maxLen) (wb : b.size ≤ maxLen) (w : World) :
    Calls Try.prog 8 #[.string a, .string b] w fun e w' => e = .returned (.bool true) ∧ Below w.heap.size w w' := by
  have hL : maxLen = 9223372036854775807 := rfl
  by_cases h3 : a.size + b.size ≤ 1048576
  · by_cases h1 : a.size ≤ 4096
    · by_cases h2 : b.size ≤ 4096
      · go_enter Try.func8, Try.ntmps8
        go_wp2_with fail
        refine (zzBytes21 a b w wa wb).mono ?_
        rintro e w2 ⟨rfl, rfl⟩
        rw [decide_eq_true h3]
        go_wp2_with fail
        refine (zzEdit_any a b w h1 h2).mono ?_
        rintro e w2 ⟨rfl, hB⟩
        go_wp2_with fail
        refine (zzEdit_any b a w2 h2 h1).mono ?_
        rintro e w3 ⟨rfl, hB2⟩
        have hB3 := hB.trans (hB2.mono hB.size)
        clear hB hB2
        have hl := Ed.ed_lo a.data.toList b.data.toList
        have hh := Ed.ed_hi a.data.toList b.data.toList
        have hz := Ed.ed_zero a.data.toList b.data.toList
        have hm : a.size = b.size → Ed.ed a.data.toList b.data.toList ≤ Ed.ham a.data.toList b.data.toList a.size := fun e => by
          have h := Ed.ed_ham a.data.toList b.data.toList a.size (by simp) (by rw [e]; simp)
          rw [List.take_of_length_le (by simp), List.take_of_length_le (by rw [e]; simp)] at h
          exact h
        have la : a.data.toList.length = a.size := by simp
        have lb : b.data.toList.length = b.size := by simp
        rw [la, lb] at hl hh
        rw [Ed.ed_symm b.data.toList a.data.toList]
        obtain ⟨d, hd⟩ : ∃ d, d = Ed.ed a.data.toList b.data.toList := ⟨_, rfl⟩
        rw [← hd] at hl hh hz hm ⊢
        have hz2 : ((d : Int) == 0) = (a.toList == b.toList) := by
          rw [ByteArray.toList_eq, ByteArray.toList_eq]
          by_cases e : d = 0
          · rw [hz.1 e, e]; simp
          · have : ¬ a.data.toList = b.data.toList := fun h => e (hz.2 h)
            rw [beq_eq_false_iff_ne.2 this]; simp; omega
        have hz3 : (!(((d : Int) == 0) == (a.toList == b.toList))) = false := by rw [hz2]; simp
        clear hd hz hz2 la lb
        obtain ⟨hl1, hl2⟩ := hl
        by_cases hab : a.size = b.size
        · have hm1 := hm hab
          have hml := ham_le a.data.toList b.data.toList a.size
          have p1 : ¬ ((a.size : Int) - b.size < 0) := by omega
          have p2 : ¬ (a.size < b.size) := by omega
          have p3 : ¬ ((d : Int) < (a.size : Int) - b.size) := by omega
          have p4 : ¬ (a.size < d) := by omega
          go_wp2_with fail
          refine (hamming_any a b w3 h1 hab).mono ?_
          rintro e w4 ⟨rfl, hB4⟩
          have hB5 := hB3.trans (hB4.mono hB3.size)
          obtain ⟨q, hq⟩ : ∃ q, q = Ed.ham a.data.toList b.data.toList a.size := ⟨_, rfl⟩
          rw [← hq] at hm1 hml ⊢
          have p5 : ¬ (q < d) := by omega
          clear hq hm
          go_wp2_with fail
          go_ret
          exact ⟨rfl, hB5⟩
        · by_cases hlt : a.size < b.size
          · have p1 : ((a.size : Int) - b.size < 0) := by omega
            have p3 : ¬ ((d : Int) < -((a.size : Int) - b.size)) := by omega
            have p4 : ¬ (b.size < d) := by omega
            go_wp2_with fail
            go_ret
            exact ⟨rfl, hB3⟩
          · have p1 : ¬ ((a.size : Int) - b.size < 0) := by omega
            have p3 : ¬ ((d : Int) < ((a.size : Int) - b.size)) := by omega
            have p4 : ¬ (a.size < d) := by omega
            go_wp2_with fail
            go_ret
            exact ⟨rfl, hB3⟩
      · go_enter Try.func8, Try.ntmps8
        go_wp2_with fail
        refine (zzBytes21 a b w wa wb).mono ?_
        rintro e w2 ⟨rfl, rfl⟩
        rw [decide_eq_true h3]
        go_wp2_with fail
        go_ret
        exact ⟨rfl, Below.refl _ _⟩
    · go_enter Try.func8, Try.ntmps8
      go_wp2_with fail
      refine (zzBytes21 a b w wa wb).mono ?_
      rintro e w2 ⟨rfl, rfl⟩
      rw [decide_eq_true h3]
      go_wp2_with fail
      go_ret
      exact ⟨rfl, Below.refl _ _⟩
  · go_enter Try.func8, Try.ntmps8
    go_wp2_with fail
    refine (zzBytes21 a b w wa wb).mono ?_
    rintro e w2 ⟨rfl, rfl⟩
    rw [decide_eq_false h3]
    go_wp2_with fail
    go_ret
    exact ⟨rfl, Below.refl _ _⟩

end Go.Proofs.Qxb6603118a
