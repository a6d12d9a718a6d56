/-
  THE WALKS of editDistance (27), ZZeditDistance (19).
-/
import Derived.Test.Qxb6603118aProg
import Derived.Test.Qxb6603118aEdPlain
import Derived.WalkKit
import Derived.WalkSpells
import Derived.WalkLawsBesides
import Derived.Deep.OwnRows
import Derived.Deep.QuietTactic
import Derived.BigQuiet
namespace Go.Proofs.Qxb6603118a
open Go.RowKit

theorem Try.info3 : (Try.prog.info? 3).map (fun i => (i.zero, i.size, i.bytes)) = some (some (.int .i64 0), 1, 8) := by kernel_rfl

theorem below_drewAny {B : Nat} {a w : World} (h : Below B a w) (n : Nat) : Below B a (w.drewN n) := ⟨h.os, h.tape, h.output, h.size, h.block⟩

theorem stored_eq (x y z c : Nat) : (if ((z : Int) + c) < if y < x then (y : Int) + 1 else (x : Int) + 1 then ((z : Int) + c) else if y < x then (y : Int) + 1 else (x : Int) + 1) = ((min (min (x + 1) (y + 1)) (z + c) : Nat) : Int) := by
  by_cases h : y < x
  · rw [if_pos h]; split <;> omega
  · rw [if_neg h]; split <;> omega

theorem row_next {wr : World} {B m i j nq : Nat} {a b : ByteArray} {v : Value} (hv : v = .int .i64 (Ed.E a b (i + 1) (j + 1) : Nat))
    (hrow : wr.rowIs B 3 m (fun c => if c ≤ j then .int .i64 (Ed.E a b (i + 1) c : Nat) else .int .i64 (Ed.E a b i c : Nat))) :
    ((wr.drewN nq).setCell ⟨B, j + 1, none⟩ v).rowIs B 3 m (fun c => if c ≤ j + 1 then .int .i64 (Ed.E a b (i + 1) c : Nat) else .int .i64 (Ed.E a b i c : Nat)) := by
  have h0 : (wr.drewN nq).rowIs B 3 m (fun c => if c ≤ j then .int .i64 (Ed.E a b (i + 1) c : Nat) else .int .i64 (Ed.E a b i c : Nat)) := hrow
  refine (h0.set (j + 1) v).congr (fun c hc => ?_)
  by_cases e : c = j + 1
  · subst e
    rw [if_pos rfl, if_pos (Nat.le_refl _), hv]
  · rw [if_neg e]
    by_cases h : c ≤ j
    · rw [if_pos h, if_pos (show c ≤ j + 1 by omega)]
    · rw [if_neg h, if_neg (show ¬ c ≤ j + 1 by omega)]

set_option maxRecDepth 100000 in
set_option maxHeartbeats 1600000 in
theorem edit_any (a b : ByteArray) (w : World) (ha : a.size ≤ 4096) (hb : b.size ≤ 4096) :
    Calls Try.prog 27 #[.string a, .string b] w fun e w' => e = .returned (.int .i64 (Ed.ed a.data.toList b.data.toList : Nat)) ∧ Below w.heap.size w w' := by
  obtain ⟨m, hm⟩ : ∃ m, m = b.size + 1 := ⟨_, rfl⟩
  have e1 : (b.size : Int) + 1 = (m : Int) := by omega
  have HM : Hid (m = b.size + 1) := hm
  have hmb : b.size < m := by omega
  have hm2 : m ≤ b.size + 1 := by omega
  clear hm
  have hmk := run_make_row' (P := Try.prog) 32 3 (.int .i64 0) 8 Try.underlying32 Try.info3 rfl .i64 .i64 m (by omega) (by omega)
  go_enter Try.func27, Try.ntmps27
  go_wp2
  clear hmk
  go_loopw [17] (fun vj wr => ∃ k : Nat, k ≤ m ∧ vj = .int .i64 k ∧ wr.rowIs w.heap.size 3 m (fun j => if j < k then .int .i64 (j : Nat) else .int .i64 0) ∧ Below w.heap.size w wr) (fun vj _ => m - (intOf vj).toNat)
  case atStart => exact ⟨0, Nat.zero_le _, rfl, (World.rowIs_made w _ m 3).congr (fun i _ => by simp), (Below.refl _ _).alloc (Nat.le_refl _) _⟩
  case round =>
    obtain ⟨k, hk, rfl, hrow, hbel⟩ := hrel
    by_cases hlt : k < m
    · have hc := hrow.cell hlt
      have hf := hrow.frozen k
      go_wp2
      go_roundw
      case rel =>
        refine ⟨k + 1, by omega, by go_num, (hrow.set k _).congr (fun j hj => ?_), hbel.setCell (Nat.le_refl _) _⟩
        by_cases e : j = k
        · subst e
          rw [if_pos rfl, if_pos (show j < j + 1 by omega)]
        · rw [if_neg e]
          by_cases h : j < k
          · rw [if_pos h, if_pos (show j < k + 1 by omega)]
          · rw [if_neg h, if_neg (show ¬ j < k + 1 by omega)]
      case measure => simp [intOf]; omega
    · have hrow1 := hrow.congr (g := fun j => .int .i64 (Ed.E a b 0 j : Nat)) (fun j hj => by rw [if_pos (by omega), Ed.E_left a b j (by omega)])
      clear hrow
      go_wp2
      obtain ⟨w1, rfl⟩ : ∃ w1 : World, w1 = wr := ⟨_, rfl⟩
      go_loopw [27] (fun vi wr => ∃ i : Nat, i ≤ a.size ∧ vi = .int .i64 i ∧ wr.rowIs w.heap.size 3 m (fun j => .int .i64 (Ed.E a b i j : Nat)) ∧ Below w.heap.size w wr) (fun vi _ => a.size - (intOf vi).toNat)
      case atStart => exact ⟨0, Nat.zero_le _, rfl, hrow1, hbel⟩
      case round =>
        clear hrow1 hbel
        obtain ⟨i, hi, rfl, hrow, hbel⟩ := hrel
        by_cases hia : i < a.size
        · have c0 := hrow.cell (i := 0) (by omega)
          have f0 := hrow.frozen 0
          rw [Ed.E_right a b i hi] at c0
          have hrow2 := (hrow.set 0 (.int .i64 ((i : Int) + 1))).congr (g := fun j => if j ≤ 0 then .int .i64 (Ed.E a b (i + 1) j : Nat) else .int .i64 (Ed.E a b i j : Nat)) (fun j hj => by
            by_cases e : j = 0
            · subst e
              rw [if_pos rfl, if_pos (Nat.le_refl 0), Ed.E_right a b (i + 1) (by omega)]; go_num
            · rw [if_neg e, if_neg (show ¬ j ≤ 0 by omega)])
          have hbel2 := hbel.setCell (p := ⟨w.heap.size, 0, none⟩) (Nat.le_refl _) (.int .i64 ((i : Int) + 1))
          have b1 : (0 : Int) < (m : Int) := by omega
          go_wp2
          obtain ⟨wo, hwo⟩ : ∃ wo : World, wo = wr.setCell ⟨w.heap.size, 0, none⟩ (.int .i64 ((i : Int) + 1)) := ⟨_, rfl⟩
          rw [← hwo]
          rw [← hwo] at hrow2 hbel2
          clear hwo hrow hbel c0 f0
          go_loopw [8, 39] (fun vd vj wr => ∃ j : Nat, j ≤ b.size ∧ vj = .int .i64 j ∧ vd = .int .i64 (Ed.E a b i j : Nat) ∧ wr.rowIs w.heap.size 3 m (fun c => if c ≤ j then .int .i64 (Ed.E a b (i + 1) c : Nat) else .int .i64 (Ed.E a b i c : Nat)) ∧ Below w.heap.size w wr) (fun _ vj _ => b.size - (intOf vj).toNat)
          case atStart => exact ⟨0, Nat.zero_le _, rfl, by rw [Ed.E_right a b i hi], hrow2, hbel2⟩
          case round =>
            clear hrow2 hbel2
            obtain ⟨j, hj, rfl, rfl, hrow, hbel⟩ := hrel
            by_cases hjb : j < b.size
            · obtain ⟨x, hx⟩ : ∃ x, x = Ed.E a b i (j + 1) := ⟨_, rfl⟩
              obtain ⟨y, hy⟩ : ∃ y, y = Ed.E a b (i + 1) j := ⟨_, rfl⟩
              obtain ⟨z, hz⟩ : ∃ z, z = Ed.E a b i j := ⟨_, rfl⟩
              have bx := Ed.E_le a b i (j + 1)
              have by' := Ed.E_le a b (i + 1) j
              have bz := Ed.E_le a b i j
              rw [← hx] at bx
              rw [← hy] at by'
              rw [← hz] at bz ⊢
              have r1 : wr.cell? ⟨w.heap.size, j + 1, none⟩ = some (.int .i64 (x : Nat)) := by rw [hrow.cell (i := j + 1) (by omega), if_neg (by omega), hx]
              have r2 : wr.cell? ⟨w.heap.size, j, none⟩ = some (.int .i64 (y : Nat)) := by rw [hrow.cell (i := j) (by omega), if_pos (Nat.le_refl _), hy]
              have r3 := hrow.frozen (j + 1)
              have hcst := Ed.cost_bytes a[i] b[j]
              have hstep := Ed.E_step a b i j hia hjb
              rw [← hx, ← hy, ← hz] at hstep
              have HST : Hid (Ed.E a b (i + 1) (j + 1) = min (min (x + 1) (y + 1)) (z + Ed.cost a[i] b[j])) := hstep
              have HCB : Hid (Ed.cost a[i] b[j] = if (a[i].toNat : Int) = (b[j].toNat : Int) then 0 else 1) := hcst
              have b2 : (i : Int) < (a.size : Int) := by omega
              have b3 : (j : Int) < (b.size : Int) := by omega
              have b4 : (j : Int) + 1 < (m : Int) := by omega
              have b5 : (j : Int) < (m : Int) := by omega
              have HX : Hid (x = Ed.E a b i (j + 1)) := hx
              clear hx hy hz hcst hstep
              go_wp2
              go_quiet (fail)
              go_wp2
              · have hw1 : IntKind.i64.wrap ((j : Int) + 1) = (j : Int) + 1 := by rw [IntKind.wrap_i64]; omega
                have hw2 : IntKind.i64.wrap ((x : Int) + 1) = (x : Int) + 1 := by rw [IntKind.wrap_i64]; omega
                have hw3 : IntKind.i64.wrap ((y : Int) + 1) = (y : Int) + 1 := by rw [IntKind.wrap_i64]; omega
                have hw4 : IntKind.i64.wrap ((z : Int)) = (z : Int) := by rw [IntKind.wrap_i64]; omega
                have heq : ((a[i].toNat : Int) == (b[j].toNat : Int)) = true := by assumption
                have hval : Hid ((if (z : Int) < if y < x then (y : Int) + 1 else (x : Int) + 1 then (z : Int) else if y < x then (y : Int) + 1 else (x : Int) + 1) = ((Ed.E a b (i + 1) (j + 1) : Nat) : Int)) := by
                  show _ = _
                  have h1 := HST.out
                  rw [HCB.out, if_pos (by simpa using heq)] at h1
                  rw [h1]
                  simpa using stored_eq x y z 0
                go_region
                all_goals
                  go_wp2
                  go_roundw
                  case rel => exact ⟨j + 1, by omega, by go_num, by rw [HX.out], row_next (by rw [hval.out]) hrow, (below_drewAny hbel _).setCell (Nat.le_refl _) _⟩
                  case measure => simp [intOf]; omega
              · have hw1 : IntKind.i64.wrap ((j : Int) + 1) = (j : Int) + 1 := by rw [IntKind.wrap_i64]; omega
                have hw2 : IntKind.i64.wrap ((x : Int) + 1) = (x : Int) + 1 := by rw [IntKind.wrap_i64]; omega
                have hw3 : IntKind.i64.wrap ((y : Int) + 1) = (y : Int) + 1 := by rw [IntKind.wrap_i64]; omega
                have hw4 : IntKind.i64.wrap ((z : Int) + 1) = (z : Int) + 1 := by rw [IntKind.wrap_i64]; omega
                have heq : ((a[i].toNat : Int) == (b[j].toNat : Int)) = false := by assumption
                have hval : Hid ((if (z : Int) + 1 < if y < x then (y : Int) + 1 else (x : Int) + 1 then (z : Int) + 1 else if y < x then (y : Int) + 1 else (x : Int) + 1) = ((Ed.E a b (i + 1) (j + 1) : Nat) : Int)) := by
                  show _ = _
                  have h1 := HST.out
                  rw [HCB.out, if_neg (by simpa using heq)] at h1
                  rw [h1]
                  simpa using stored_eq x y z 1
                go_region
                all_goals
                  go_wp2
                  go_roundw
                  case rel => exact ⟨j + 1, by omega, by go_num, by rw [HX.out], row_next (by rw [hval.out]) hrow, (below_drewAny hbel _).setCell (Nat.le_refl _) _⟩
                  case measure => simp [intOf]; omega
            · have hjb' : j = b.size := by omega
              have hrow3 := hrow.congr (g := fun c => .int .i64 (Ed.E a b (i + 1) c : Nat)) (fun c hc => by rw [if_pos (by omega)])
              clear hrow
              go_wp2
              go_roundw
              case rel => exact ⟨i + 1, by omega, by go_num, hrow3, hbel⟩
              case measure => simp [intOf]; omega
        · have hia' : i = a.size := by omega
          have c1 := hrow.cell (i := b.size) (by omega)
          rw [hia', Ed.E_all] at c1
          have b1 : (b.size : Int) < (m : Int) := by omega
          clear hia' hrow
          go_wp2
          go_ret
          exact ⟨rfl, hbel⟩

end Go.Proofs.Qxb6603118a
