/-
  THE WALKS of zzPad5 (30), ZZMakeValue (29), zzDistinctValues (16): a row of n Values, their strings whatever, their numbers 1.
-/
import Derived.Test.Qxb6600858aProg
import Derived.WalkKit
import Derived.WalkSpells
import Derived.WalkLawsBesides
import Derived.Deep.OwnRows
namespace Go.Proofs.Qxb6600858a
open Go.RowKit

/-- Every row of five byte cells is a string's bytes. -/
theorem five_bytes {w : World} {b : Nat} {f : Nat → Nat} (h : w.rowIs b 5 5 (fun j => .int .u8 (f j))) (hf : ∀ j, f j ≤ 255) :
    ∃ s : ByteArray, Sem.run Try.prog (convert 22 9 (.slice (some ⟨b, 0, none⟩) 5 5)) w = .ok (.string s) w := by
  have := run_convert_bytes_back (P := Try.prog) w 22 9 5 ⟨b, 0, none⟩ 5 ((List.range 5).map (fun j => UInt8.ofNat (f j))) Try.underlying22 Try.underlying5 Try.underlying9 (by
    intro j hj
    simp at hj
    rw [Addr.add_lit, Nat.zero_add, h.cell hj]
    have := hf j
    simp [Nat.mod_eq_of_lt (show f j < 256 by omega)])
  exact ⟨_, this⟩

set_option maxHeartbeats 400000 in
theorem pad5_any (i : Nat) (w : World) (hi : i ≤ 100000) :
    Calls Try.prog 30 #[.int .i64 i] w fun e w' => ∃ s : ByteArray, e = .returned (.string s) ∧ Below w.heap.size w w' := by
  go_enter Try.func30, Try.ntmps30
  go_wp2
  go_loopw [0, 4] (fun vi vj wr => ∃ (j m : Nat) (f : Nat → Nat), j ≤ 5 ∧ m ≤ 100000 ∧ vi = .int .i64 m ∧ vj = .int .i64 ((j : Int) - 1) ∧ wr.rowIs w.heap.size 5 5 (fun j => .int .u8 (f j)) ∧ (∀ j, f j ≤ 255) ∧ Below w.heap.size w wr)
    (fun _ vj _ => (intOf vj + 1).toNat)
  case atStart =>
    refine ⟨5, i, fun _ => 48, Nat.le_refl _, hi, rfl, rfl, ?_, fun _ => by show 48 ≤ 255; omega, (Below.refl _ _).alloc (Nat.le_refl _) _⟩
    refine World.rowIs_alloc w _ 5 _ (fun j hj => ?_)
    match j, hj with
    | 0, _ => rfl
    | 1, _ => rfl
    | 2, _ => rfl
    | 3, _ => rfl
    | 4, _ => rfl
  case round =>
    obtain ⟨j, m, f, hj, hm, rfl, rfl, hrow, hf, hbel⟩ := hrel
    by_cases h0 : j = 0
    · subst h0
      obtain ⟨s, hs⟩ := five_bytes hrow hf
      go_wp2
      go_ret
      exact ⟨s, rfl, hbel⟩
    · have hcell := hrow.cell (i := j - 1) (by omega)
      have hfz := hrow.frozen (j - 1)
      go_wp2
      go_roundw
      case rel =>
        refine ⟨j - 1, m / 10, fun k => if k = j - 1 then 48 + m % 10 else f k, by omega, by omega, by go_num, by go_num, (hrow.set (j - 1) _).congr (fun k hk => ?_), fun k => ?_, hbel.setCell (Nat.le_refl _) _⟩
        · by_cases e : k = j - 1
          · simp only [e, if_true]; go_num
          · simp only [e, if_false]
        · have := hf k
          show (if k = j - 1 then 48 + m % 10 else f k) ≤ 255
          split <;> omega
      case measure => simp [intOf]; omega

/-- ZZMakeValue builds the struct. -/
theorem makeValue_any (s : ByteArray) (n : Int) (w : World) :
    Calls Try.prog 29 #[.string s, .int .i64 n] w fun e w' => e = .returned (.agg #[.string s, .int .i64 n]) ∧ Below w.heap.size w w' := by
  go_enter Try.func29, Try.ntmps29
  go_wp2
  exact bodyPost_ret (v := .agg #[.string s, .int .i64 n]) (by simp [results, Try.results29, go_sem]) rfl ⟨rfl, (Below.refl _ _).alloc (Nat.le_refl _) _⟩

/-- The cells of a row of Values: a string, then the number 1. -/
def vcell (S : Nat → ByteArray) (j : Nat) : Value := if j % 2 = 0 then .string (S (j / 2)) else .int .i64 1
theorem vcell_even (S : Nat → ByteArray) (i : Nat) : vcell S (i * 2) = .string (S i) := by
  have e1 : i * 2 % 2 = 0 := by omega
  have e2 : i * 2 / 2 = i := by omega
  simp [vcell, e1, e2]
theorem vcell_odd (S : Nat → ByteArray) (i : Nat) : vcell S (i * 2 + 1) = .int .i64 1 := by
  have e1 : (i * 2 + 1) % 2 = 1 := by omega
  simp [vcell, e1]

def zeroVals (n : Nat) : Array Value := madeCells #[.string ByteArray.empty, .int .i64 0] (n * 2)
theorem zeroVals_size (n : Nat) : (zeroVals n).size = n * 2 := size_madeCells _ _
def zcell (j : Nat) : Value := if j % 2 = 0 then .string ByteArray.empty else .int .i64 0
theorem zeroVals_at (n j : Nat) (h : j < n * 2) : (zeroVals n)[j]? = some (zcell j) := by
  have h2 : j % 2 = 0 ∨ j % 2 = 1 := by omega
  rcases h2 with e | e <;> simp [zeroVals, madeCells, zcell, h, e]

theorem Try.info43 : (Try.prog.info? 43).map (fun i => (i.zero, i.size, i.bytes)) = some (some (.agg #[.string ByteArray.empty, .int .i64 0]), 2, 24) := by kernel_rfl

theorem make_vals (n : Nat) (hn : n ≤ 65536) (w : World) :
    (Instr.makeSlice 30 (.int .i64 (n : Int)) (.int .i64 (n : Int))).run Try.prog w = .ok (.slice (some ⟨w.heap.size, 0, none⟩) n n) (w.alloc (.cells (zeroVals n) 43)) := by
  obtain ⟨i, hi, hz0, hz1, hz2⟩ := info_parts Try.info43
  have := run_make (P := Try.prog) w 30 43 i _ Try.underlying30 hi hz0 .i64 .i64 n n (by omega) (Int.le_refl _) (by rw [hz2]; omega) (by omega)
  rw [this, hz1]
  simp [zeroVals, Value.cells]

theorem vals_step (S : Nat → ByteArray) (s : ByteArray) (k j : Nat) :
    (if j = k * 2 + 1 then Value.int .i64 1 else if j = k * 2 then Value.string s else if j < k * 2 then vcell S j else zcell j) =
      if j < (k + 1) * 2 then vcell (fun i => if i = k then s else S i) j else zcell j := by
  by_cases e1 : j = k * 2 + 1
  · subst e1
    rw [if_pos rfl, if_pos (show k * 2 + 1 < (k + 1) * 2 by omega), vcell_odd]
  · rw [if_neg e1]
    by_cases e0 : j = k * 2
    · subst e0
      rw [if_pos rfl, if_pos (show k * 2 < (k + 1) * 2 by omega), vcell_even, if_pos rfl]
    · rw [if_neg e0]
      by_cases h : j < k * 2
      · rw [if_pos h, if_pos (show j < (k + 1) * 2 by omega)]
        have : ¬ j / 2 = k := by omega
        simp [vcell, this]
      · rw [if_neg h, if_neg (show ¬ j < (k + 1) * 2 by omega)]

set_option maxHeartbeats 400000 in
theorem distinct_any (n : Nat) (hn : n ≤ 65536) (w : World) :
    Calls Try.prog 16 #[.int .i64 n] w fun e w' => ∃ S : Nat → ByteArray, e = .returned (.slice (some ⟨w.heap.size, 0, none⟩) n n) ∧ w'.rowIs w.heap.size 43 (n * 2) (vcell S) ∧ Below w.heap.size w w' := by
  have hmk := make_vals n hn
  go_enter Try.func16, Try.ntmps16
  go_wp2
  go_loopw [4] (fun vi wr => ∃ (k : Nat) (S : Nat → ByteArray), k ≤ n ∧ vi = .int .i64 k ∧ wr.rowIs w.heap.size 43 (n * 2) (fun j => if j < k * 2 then vcell S j else zcell j) ∧ Below w.heap.size w wr)
    (fun vi _ => n - (intOf vi).toNat)
  case atStart =>
    refine ⟨0, fun _ => ByteArray.empty, Nat.zero_le _, rfl, ?_, (Below.refl _ _).alloc (Nat.le_refl _) _⟩
    have := World.rowIs_alloc w (zeroVals n) 43 zcell (fun i hi => zeroVals_at n i (by rwa [zeroVals_size] at hi))
    rw [zeroVals_size] at this
    exact this.congr (fun i _ => by simp)
  case round =>
    obtain ⟨k, S, hk, rfl, hrow, hbel⟩ := hrel
    clear hmk
    by_cases hlt : k < n
    · go_wp2_with fail
      refine (pad5_any k wr (by omega)).mono ?_
      rintro e w1 ⟨s, rfl, hb1⟩
      go_wp2_with fail
      refine (makeValue_any s 1 w1).mono ?_
      rintro e w2 ⟨rfl, hb2⟩
      have hs0 := hrow.lt
      have hs1 := hb1.size
      have hrow2 := (hrow.of_block (hb1.block _ hs0)).of_block (hb2.block _ (by omega))
      have c0 := hrow2.cell (i := k * 2) (by omega)
      have c1 := hrow2.cell (i := k * 2 + 1) (by omega)
      have f0 := hrow2.frozen (k * 2)
      have f1 := hrow2.frozen (k * 2 + 1)
      go_wp2
      go_roundw
      case rel =>
        refine ⟨k + 1, fun i => if i = k then s else S i, by omega, by go_num, ((hrow2.set (k * 2) _).set (k * 2 + 1) _).congr (fun j hj => ?_),
          (((hbel.trans (hb1.mono (by have := hbel.size; omega))).trans (hb2.mono (by have := hbel.size; omega))).setCell (Nat.le_refl _) _).setCell (Nat.le_refl _) _⟩
        exact vals_step S s k j
      case measure => simp [intOf]; omega
    · go_wp2
      go_ret
      exact ⟨S, rfl, hrow.congr (fun i hi => by rw [if_pos (by omega)]), hbel⟩

end Go.Proofs.Qxb6600858a
