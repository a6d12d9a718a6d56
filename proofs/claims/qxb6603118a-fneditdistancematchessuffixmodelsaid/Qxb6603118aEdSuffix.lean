/-
  THE WALKS of min3 (28), suffixDistance (20), and of the law FnEditDistanceMatchesSuffixModel (7).
-/
import Derived.Test.Qxb6603118aEdMetric
import Derived.Deep.RegionWith
namespace Go.Proofs.Qxb6603118a
open Go.RowKit

/-- The distance of a's bytes from i on to b's bytes from j on. -/
def Ed.D (a b : ByteArray) (i j : Nat) : Nat := Ed.ed (a.data.toList.drop i) (b.data.toList.drop j)

theorem Ed.drop_cons (s : ByteArray) (k : Nat) (h : k < s.size) : s.data.toList.drop k = s[k] :: s.data.toList.drop (k + 1) := by
  rw [List.drop_eq_getElem_cons (by simpa using h)]; rfl
theorem Ed.D_all (a b : ByteArray) : Ed.D a b 0 0 = Ed.ed a.data.toList b.data.toList := rfl
theorem Ed.D_left (a b : ByteArray) (j : Nat) : Ed.D a b a.size j = b.size - j := by
  unfold Ed.D
  rw [List.drop_of_length_le (by simp), Ed.ed_nil]; simp
theorem Ed.D_right (a b : ByteArray) (i : Nat) : Ed.D a b i b.size = a.size - i := by
  unfold Ed.D
  rw [List.drop_of_length_le (i := b.size) (by simp), Ed.ed_nil_right]; simp
theorem Ed.D_same (a b : ByteArray) (i j : Nat) (hi : i < a.size) (hj : j < b.size) (h : a[i] = b[j]) : Ed.D a b i j = Ed.D a b (i + 1) (j + 1) := by
  unfold Ed.D
  rw [Ed.drop_cons a i hi, Ed.drop_cons b j hj, h, Ed.ed_same]
theorem Ed.D_other (a b : ByteArray) (i j : Nat) (hi : i < a.size) (hj : j < b.size) (h : a[i] ≠ b[j]) : Ed.D a b i j = 1 + min (min (Ed.D a b (i + 1) j) (Ed.D a b i (j + 1))) (Ed.D a b (i + 1) (j + 1)) := by
  unfold Ed.D
  rw [Ed.drop_cons a i hi, Ed.drop_cons b j hj, Ed.ed_other _ _ _ _ h]
theorem Ed.D_le (a b : ByteArray) (i j : Nat) : Ed.D a b i j ≤ max a.size b.size := by
  have h := Ed.ed_hi (a.data.toList.drop i) (b.data.toList.drop j)
  have hl : a.data.toList.length = a.size := by simp
  have hl2 : b.data.toList.length = b.size := by simp
  simp only [List.length_drop] at h
  unfold Ed.D
  omega

theorem min3_any (x y z : Nat) (w : World) :
    Calls Try.prog 28 #[.int .i64 x, .int .i64 y, .int .i64 z] w fun e w' => e = .returned (.int .i64 (min (min x y) z : Nat)) ∧ w = w' := by
  by_cases h1 : y < x
  · by_cases h2 : z < y
    · rw [show min (min x y) z = z by omega]
      go_enter Try.func28, Try.ntmps28
      go_wp2
      go_ret
      exact ⟨rfl, rfl⟩
    · rw [show min (min x y) z = y by omega]
      go_enter Try.func28, Try.ntmps28
      go_wp2
      go_ret
      exact ⟨rfl, rfl⟩
  · by_cases h2 : z < x
    · rw [show min (min x y) z = z by omega]
      go_enter Try.func28, Try.ntmps28
      go_wp2
      go_ret
      exact ⟨rfl, rfl⟩
    · rw [show min (min x y) z = x by omega]
      go_enter Try.func28, Try.ntmps28
      go_wp2
      go_ret
      exact ⟨rfl, rfl⟩

theorem nb_alloc (w : World) (o : Obj) : (w.alloc o).heap.size = w.heap.size + 1 := by simp

theorem min3_is (x y z t : Nat) (ht : t = min (min x y) z) (w : World) :
    Calls Try.prog 28 #[.int .i64 x, .int .i64 y, .int .i64 z] w fun e w' => e = .returned (.int .i64 (t : Nat)) ∧ w = w' := by
  rw [ht]; exact min3_any x y z w

/-- A row's step to the left. -/
theorem row_prev {wr : World} {q m i j nq : Nat} {a b : ByteArray} {g : Nat → Int} {v : Value} (hv : v = .int .i64 (Ed.D a b i j : Nat))
    (hrow : wr.rowIs q 3 m (fun c => if j + 1 ≤ c then .int .i64 (Ed.D a b i c : Nat) else .int .i64 (g c))) :
    ((wr.drewN nq).setCell ⟨q, j, none⟩ v).rowIs q 3 m (fun c => if j ≤ c then .int .i64 (Ed.D a b i c : Nat) else .int .i64 (g c)) := by
  have h0 : (wr.drewN nq).rowIs q 3 m (fun c => if j + 1 ≤ c then .int .i64 (Ed.D a b i c : Nat) else .int .i64 (g c)) := hrow
  refine (h0.set j v).congr (fun c hc => ?_)
  by_cases e : c = j
  · subst e
    rw [if_pos rfl, if_pos (Nat.le_refl _), hv]
  · rw [if_neg e]
    by_cases h : j + 1 ≤ c
    · rw [if_pos h, if_pos (show j ≤ c by omega)]
    · rw [if_neg h, if_neg (show ¬ j ≤ c by omega)]

set_option maxRecDepth 100000 in
set_option maxHeartbeats 1600000 in
theorem suffix_any (a b : ByteArray) (w : World) (ha : a.size ≤ 4096) (hb : b.size ≤ 4096) :
    Calls Try.prog 20 #[.string a, .string b] w fun e w' => e = .returned (.int .i64 (Ed.ed a.data.toList b.data.toList : Nat)) ∧ Below w.heap.size w w' := by
  obtain ⟨m, hm⟩ : ∃ m, m = b.size + 1 := ⟨_, rfl⟩
  have e1 : (b.size : Int) + 1 = (m : Int) := by omega
  have HM : Hid (m = b.size + 1) := hm
  have hmb : b.size < m := by omega
  have hm2 : m ≤ b.size + 1 := by omega
  clear hm
  have hmk := run_make_row' (P := Try.prog) 32 3 (.int .i64 0) 8 Try.underlying32 Try.info3 rfl .i64 .i64 m (by omega) (by omega)
  go_enter Try.func20, Try.ntmps20
  go_wp2
  clear hmk
  have s0 := (World.rowIs_made w (.int .i64 0) m 3).alloc (.cells (madeCells #[.int .i64 0] m) 3)
  have s1 := World.rowIs_made (w.alloc (.cells (madeCells #[.int .i64 0] m) 3)) (.int .i64 0) m 3
  rw [nb_alloc] at s1
  have sB : Below w.heap.size w ((w.alloc (.cells (madeCells #[.int .i64 0] m) 3)).alloc (.cells (madeCells #[.int .i64 0] m) 3)) := ((Below.refl _ _).alloc (Nat.le_refl _) _).alloc (by rw [nb_alloc]; omega) _
  obtain ⟨wA, hwA⟩ : ∃ wA : World, wA = (w.alloc (.cells (madeCells #[.int .i64 0] m) 3)).alloc (.cells (madeCells #[.int .i64 0] m) 3) := ⟨_, rfl⟩
  rw [← hwA]
  rw [← hwA] at s0 s1 sB
  clear hwA
  go_loopw [9] (fun vj wr => ∃ k : Nat, k ≤ m ∧ vj = .int .i64 k ∧ wr.rowIs w.heap.size 3 m (fun j => if j < k then .int .i64 (b.size - j : Nat) else .int .i64 0) ∧ wr.rowIs (w.heap.size + 1) 3 m (fun _ => .int .i64 0) ∧ Below w.heap.size w wr) (fun vj _ => m - (intOf vj).toNat)
  case atStart => exact ⟨0, Nat.zero_le _, rfl, s0.congr (fun i _ => by simp), s1, sB⟩
  case round =>
    clear s0 s1 sB
    obtain ⟨k, hk, rfl, hrow, hrow2, hbel⟩ := hrel
    by_cases hlt : k < m
    · have hc := hrow.cell hlt
      have hf := hrow.frozen k
      have b1 : (k : Int) < (m : Int) := by omega
      have b2 : (k : Int) ≤ (b.size : Int) := by omega
      go_wp2
      go_roundw
      case rel =>
        refine ⟨k + 1, by omega, by go_num, (hrow.set k _).congr (fun j hj => ?_), hrow2.setOther (by show w.heap.size + 1 ≠ w.heap.size; omega) _, hbel.setCell (Nat.le_refl _) _⟩
        by_cases e : j = k
        · subst e
          rw [if_pos rfl, if_pos (show j < j + 1 by omega)]
          congr 1; omega
        · rw [if_neg e]
          by_cases h : j < k
          · rw [if_pos h, if_pos (show j < k + 1 by omega)]
          · rw [if_neg h, if_neg (show ¬ j < k + 1 by omega)]
      case measure => simp [intOf]; omega
    · have hrow1 := hrow.congr (g := fun j => .int .i64 (Ed.D a b a.size j : Nat)) (fun j hj => by rw [if_pos (by omega), Ed.D_left])
      have b1 : ¬ ((k : Int) ≤ (b.size : Int)) := by omega
      clear hrow
      go_wp2
      obtain ⟨w1, rfl⟩ : ∃ w1 : World, w1 = wr := ⟨_, rfl⟩
      go_loopw [7, 8, 10] (fun v7 v8 vi wr => ∃ (i p q : Nat) (g : Nat → Int), i ≤ a.size ∧ p ≠ q ∧ w.heap.size ≤ p ∧ w.heap.size ≤ q ∧ v7 = .slice (some ⟨p, 0, none⟩) m m ∧ v8 = .slice (some ⟨q, 0, none⟩) m m ∧ vi = .int .i64 ((i : Int) - 1) ∧ wr.rowIs p 3 m (fun j => .int .i64 (Ed.D a b i j : Nat)) ∧ wr.rowIs q 3 m (fun j => .int .i64 (g j)) ∧ Below w.heap.size w wr) (fun _ _ vi _ => (intOf vi + 1).toNat)
      case atStart => exact ⟨a.size, w.heap.size, w.heap.size + 1, fun _ => 0, Nat.le_refl _, by omega, Nat.le_refl _, by omega, rfl, rfl, rfl, hrow1, hrow2, hbel⟩
      case round =>
        clear hrow1 hrow2 hbel hlt hk b1
        obtain ⟨i', p, q, g, hi', hpq, hp, hq, rfl, rfl, rfl, hrow, hrow2, hbel⟩ := hrel
        cases i' with
        | succ i =>
          have ei : ((i + 1 : Nat) : Int) - 1 = (i : Int) := by omega
          rw [ei]
          clear ei
          have hia : i < a.size := by omega
          have c0 := hrow2.cell (i := b.size) (by omega)
          have f0 := hrow2.frozen b.size
          have b1 : (b.size : Int) < (m : Int) := by omega
          have b2 : (0 : Int) ≤ (i : Int) := by omega
          have hrow3 := (hrow2.set b.size (.int .i64 ((a.size : Int) - i))).congr (g := fun c => if b.size ≤ c then .int .i64 (Ed.D a b i c : Nat) else .int .i64 (g c)) (fun c hc => by
            by_cases e : c = b.size
            · subst e
              rw [if_pos rfl, if_pos (Nat.le_refl _), Ed.D_right]
              congr 1; omega
            · rw [if_neg e, if_neg (show ¬ b.size ≤ c by omega)])
          have hrowp := hrow.setOther (a := ⟨q, b.size, none⟩) hpq (.int .i64 ((a.size : Int) - i))
          have hbel2 := hbel.setCell (p := ⟨q, b.size, none⟩) hq (.int .i64 ((a.size : Int) - i))
          go_wp2
          obtain ⟨wo, hwo⟩ : ∃ wo : World, wo = wr.setCell ⟨q, b.size, none⟩ (.int .i64 ((a.size : Int) - i)) := ⟨_, rfl⟩
          rw [← hwo]
          rw [← hwo] at hrow3 hbel2 hrowp
          clear hwo hrow hrow2 hbel c0 f0 b1
          go_loopw [11] (fun vj wr => ∃ j : Nat, j ≤ b.size ∧ vj = .int .i64 ((j : Int) - 1) ∧ wr.rowIs p 3 m (fun j => .int .i64 (Ed.D a b (i + 1) j : Nat)) ∧ wr.rowIs q 3 m (fun c => if j ≤ c then .int .i64 (Ed.D a b i c : Nat) else .int .i64 (g c)) ∧ Below w.heap.size w wr) (fun vj _ => (intOf vj + 1).toNat)
          case atStart => exact ⟨b.size, Nat.le_refl _, rfl, hrowp, hrow3, hbel2⟩
          case round =>
            clear hrow3 hbel2 hrowp
            obtain ⟨j', hj', rfl, hrow, hrow2, hbel⟩ := hrel
            cases j' with
            | succ j =>
              have ej : ((j + 1 : Nat) : Int) - 1 = (j : Int) := by omega
              rw [ej]
              clear ej
              have hjb : j < b.size := by omega
              obtain ⟨x, hx⟩ : ∃ x, x = Ed.D a b (i + 1) j := ⟨_, rfl⟩
              obtain ⟨y, hy⟩ : ∃ y, y = Ed.D a b i (j + 1) := ⟨_, rfl⟩
              obtain ⟨z, hz⟩ : ∃ z, z = Ed.D a b (i + 1) (j + 1) := ⟨_, rfl⟩
              have bx := Ed.D_le a b (i + 1) j
              have by' := Ed.D_le a b i (j + 1)
              have bz := Ed.D_le a b (i + 1) (j + 1)
              rw [← hx] at bx
              rw [← hy] at by'
              rw [← hz] at bz
              have r1 : wr.cell? ⟨p, j, none⟩ = some (.int .i64 (x : Nat)) := by rw [hrow.cell (i := j) (by omega), hx]
              have r2 : wr.cell? ⟨q, j + 1, none⟩ = some (.int .i64 (y : Nat)) := by rw [hrow2.cell (i := j + 1) (by omega), if_pos (Nat.le_refl _), hy]
              have r3 : wr.cell? ⟨p, j + 1, none⟩ = some (.int .i64 (z : Nat)) := by rw [hrow.cell (i := j + 1) (by omega), hz]
              have r4 : wr.cell? ⟨q, j, none⟩ = some (.int .i64 (g j)) := by rw [hrow2.cell (i := j) (by omega), if_neg (by omega)]
              have r5 := hrow2.frozen j
              have hsm : a[i] = b[j] → Ed.D a b i j = z := fun h => by rw [hz]; exact Ed.D_same a b i j hia hjb h
              have hot : a[i] ≠ b[j] → Ed.D a b i j = 1 + min (min x y) z := fun h => by rw [hx, hy, hz]; exact Ed.D_other a b i j hia hjb h
              have HSM : Hid (a[i] = b[j] → Ed.D a b i j = z) := hsm
              have HOT : Hid (a[i] ≠ b[j] → Ed.D a b i j = 1 + min (min x y) z) := hot
              have b3 : (i : Int) < (a.size : Int) := by omega
              have b4 : (j : Int) < (b.size : Int) := by omega
              have b5 : (j : Int) + 1 < (m : Int) := by omega
              have b6 : (j : Int) < (m : Int) := by omega
              have b7 : (0 : Int) ≤ (j : Int) := by omega
              have b8 : j < m := by omega
              have b9 : j + 1 < m := by omega
              clear hx hy hz hsm hot
              go_wp2
              go_quiet (fail)
              go_wp2
              · have heq : ((a[i].toNat : Int) == (b[j].toNat : Int)) = true := by assumption
                have hval : Hid (Ed.D a b i j = z) := HSM.out (UInt8.toNat_inj.1 (by have := eq_of_beq heq; omega))
                go_roundw
                case rel => exact ⟨j, by omega, by go_num, (show (wr.drewN _).rowIs p 3 m _ from hrow).setOther hpq _, row_prev (by rw [hval.out]) hrow2, (below_drewAny hbel _).setCell hq _⟩
                case measure => simp [intOf]
              · have heq : ((a[i].toNat : Int) == (b[j].toNat : Int)) = false := by assumption
                have hval : Hid (Ed.D a b i j = 1 + min (min x y) z) := HOT.out (fun e => by rw [e] at heq; simp at heq)
                obtain ⟨t, ht⟩ : ∃ t, t = min (min x y) z := ⟨_, rfl⟩
                have HT : Hid (t = min (min x y) z) := ht
                have htb : t ≤ 4096 := by omega
                clear ht
                have hw1 : IntKind.i64.wrap (1 + (t : Int)) = 1 + (t : Int) := by rw [IntKind.wrap_i64]; omega
                have hw2 : IntKind.i64.wrap ((j : Int) + 1) = (j : Int) + 1 := by rw [IntKind.wrap_i64]; omega
                go_region_with (go_at_call 28; refine (min3_is x y z t HT.out _).mono ?_; rintro e w2 ⟨rfl, rfl⟩)
                all_goals
                  go_wp2
                  go_roundw
                  case rel => exact ⟨j, by omega, by go_num, (show (wr.drewN _).rowIs p 3 m _ from hrow).setOther hpq _, row_prev (by rw [hval.out, ← HT.out]; first | rfl | (rw [hw1]; rfl) | go_num) hrow2, (below_drewAny hbel _).setCell hq _⟩
                  case measure => simp [intOf]
            | zero =>
              have hrow3 := hrow2.congr (g := fun c => .int .i64 (Ed.D a b i c : Nat)) (fun c hc => by rw [if_pos (by omega)])
              have ej : ((0 : Nat) : Int) - 1 = -1 := by omega
              rw [ej]
              clear ej
              go_wp2
              go_roundw
              case rel => exact ⟨i, q, p, fun j => Ed.D a b (i + 1) j, by omega, fun e => hpq e.symm, hq, hp, rfl, rfl, by go_num, hrow3, hrow, hbel⟩
              case measure => simp [intOf]
        | zero =>
          have c1 := hrow.cell (i := 0) (by omega)
          rw [Ed.D_all] at c1
          have b1 : (0 : Int) < (m : Int) := by omega
          have ei : ((0 : Nat) : Int) - 1 = -1 := by omega
          rw [ei]
          clear ei
          go_wp2
          go_ret
          exact ⟨rfl, hbel⟩


theorem suffix_walk (a b : ByteArray) (wa : a.size ≤ maxLen) (wb : b.size ≤ maxLen) (w : World) :
    Calls Try.prog 7 #[.string a, .string b] w fun e w' => e = .returned (.bool true) ∧ Below w.heap.size w w' := by
  have hL : maxLen = 9223372036854775807 := rfl
  by_cases h3 : a.size + b.size ≤ 1048576
  · by_cases h1 : a.size ≤ 4096
    · by_cases h2 : b.size ≤ 4096
      · go_enter Try.func7, Try.ntmps7
        go_wp2_with fail
        refine (zzBytes18 a b w wa wb).mono ?_
        rintro e w2 ⟨rfl, rfl⟩
        rw [decide_eq_true h3]
        go_wp2_with fail
        refine (zzEdit_any a b w h1 h2).mono ?_
        rintro e w2 ⟨rfl, hB⟩
        go_wp2_with fail
        refine (suffix_any a b w2 h1 h2).mono ?_
        rintro e w3 ⟨rfl, hB2⟩
        have hB3 := hB.trans (hB2.mono hB.size)
        clear hB hB2
        go_wp2_with fail
        go_ret
        exact ⟨rfl, hB3⟩
      · go_enter Try.func7, Try.ntmps7
        go_wp2_with fail
        refine (zzBytes18 a b w wa wb).mono ?_
        rintro e w2 ⟨rfl, rfl⟩
        rw [decide_eq_true h3]
        go_wp2_with fail
        go_ret
        exact ⟨rfl, Below.refl _ _⟩
    · go_enter Try.func7, Try.ntmps7
      go_wp2_with fail
      refine (zzBytes18 a b w wa wb).mono ?_
      rintro e w2 ⟨rfl, rfl⟩
      rw [decide_eq_true h3]
      go_wp2_with fail
      go_ret
      exact ⟨rfl, Below.refl _ _⟩
  · go_enter Try.func7, Try.ntmps7
    go_wp2_with fail
    refine (zzBytes18 a b w wa wb).mono ?_
    rintro e w2 ⟨rfl, rfl⟩
    rw [decide_eq_false h3]
    go_wp2_with fail
    go_ret
    exact ⟨rfl, Below.refl _ _⟩

end Go.Proofs.Qxb6603118a
