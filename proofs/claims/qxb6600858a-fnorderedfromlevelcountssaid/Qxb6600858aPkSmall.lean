/-
  THE WALKS of the small functions beside packLevel: ZZNodeValues (19), ZZNodeChildren (20), ZZNodeSize (21), zzLeastNodes (18), zzEvenShare (22).
-/
import Derived.Test.Qxb6600858aProg
import Derived.Test.Qxb6600858aPkPlain
import Derived.WalkKit
import Derived.WalkSpells
import Derived.WalkLawsBesides
import Derived.Deep.OwnRows
import Derived.Deep.QuietTactic
import Derived.BigQuiet
namespace Go.Proofs.Qxb6600858a
open Go.RowKit

theorem nodeValues_any (b : Nat) (w : World) (a : Option Addr) (n c : Nat) (h : w.cell? ⟨b, 0, none⟩ = some (.slice a n c)) :
    Calls Try.prog 19 #[.pointer (some ⟨b, 0, none⟩)] w fun e w' => e = .returned (.slice a n c) ∧ w = w' := by
  go_enter Try.func19, Try.ntmps19
  go_wp2
  go_ret
  exact ⟨rfl, rfl⟩
theorem nodeChildren_any (b : Nat) (w : World) (a : Option Addr) (n c : Nat) (h : w.cell? ⟨b, 1, none⟩ = some (.slice a n c)) :
    Calls Try.prog 20 #[.pointer (some ⟨b, 0, none⟩)] w fun e w' => e = .returned (.slice a n c) ∧ w = w' := by
  go_enter Try.func20, Try.ntmps20
  go_wp2
  go_ret
  exact ⟨rfl, rfl⟩
theorem nodeSize_any (b : Nat) (w : World) (n : Int) (h : w.cell? ⟨b, 2, none⟩ = some (.int .i64 n)) :
    Calls Try.prog 21 #[.pointer (some ⟨b, 0, none⟩)] w fun e w' => e = .returned (.int .i64 n) ∧ w = w' := by
  go_enter Try.func21, Try.ntmps21
  go_wp2
  go_ret
  exact ⟨rfl, rfl⟩

theorem ret_int {k : IntKind} {a b : Int} (h : a = b) : Ending.returned (.int k a) = .returned (.int k b) := by rw [h]

theorem leastNodes_any (m : Nat) (w : World) (hm : m ≤ 65536) :
    Calls Try.prog 18 #[.int .i64 m] w fun e w' => e = .returned (.int .i64 (Pk.cnt m : Nat)) ∧ w = w' := by
  have c1 := Pk.cnt_pos m
  have c2 := Pk.cnt_lo m
  have c3 := Pk.cnt_hi m
  go_enter Try.func18, Try.ntmps18
  go_wp2
  go_loop [3] (fun v => ∃ k : Nat, 1 ≤ k ∧ k ≤ Pk.cnt m ∧ v = .int .i64 k) (fun v => Pk.cnt m - (intOf v).toNat)
  case atStart => exact ⟨1, by omega, c1, rfl⟩
  case round =>
    obtain ⟨k, hk1, hk2, rfl⟩ := hrel
    by_cases hlt : k < Pk.cnt m
    · go_wp2
      go_round
      case rel => exact ⟨k + 1, by omega, by omega, by go_num⟩
      case measure => simp [intOf]; omega
    · go_wp2
      go_ret
      exact ⟨ret_int (by omega), rfl⟩

set_option maxHeartbeats 400000 in
theorem evenShare_any (b len cap : Nat) (f : Nat → Nat) (w : World) (hlen : 1 ≤ len) (hlen2 : len ≤ 65537) (hf : ∀ i, f i ≤ 63) (hmono : ∀ i, f (i + 1) ≤ f i) (hsp : f 0 ≤ f (len - 1) + 1)
    (hc : ∀ i, i < len → w.cell? ⟨b, i, none⟩ = some (.int .i64 (f i))) :
    Calls Try.prog 22 #[.slice (some ⟨b, 0, none⟩) len cap, .int .i64 (Pk.sumTo f 0 len : Nat)] w fun e w' => e = .returned (.bool true) ∧ ∃ nq, w' = w.drewN nq := by
  go_enter Try.func22, Try.ntmps22
  go_wp2
  go_loopw [5, 6] (fun vs vi wr => ∃ k nq : Nat, k ≤ len ∧ vi = .int .i64 k ∧ vs = .int .i64 (Pk.sumTo f 0 k : Nat) ∧ wr = w.drewN nq) (fun _ vi _ => len - (intOf vi).toNat)
  case atStart => exact ⟨0, 0, Nat.zero_le _, rfl, rfl, rfl⟩
  case round =>
    obtain ⟨k, nq, hk, rfl, rfl, rfl⟩ := hrel
    have hs := Pk.sumTo_le f 63 0 k (fun i _ _ => hf i)
    by_cases hlt : k < len
    · have hck := hc k hlt
      have hfk := hf k
      have HS : Hid (Pk.sumTo f 0 (k + 1) = Pk.sumTo f 0 k + f k) := by show Pk.sumTo f 0 (k + 1) = _; simp [Pk.sumTo]
      by_cases h0 : k = 0
      · subst h0
        have hd : decide ((0 : Int) < ((0 : Nat) : Int)) = false := by decide
        go_wp2
        go_quiet (fail)
        go_wp2
        go_roundw
        case rel => exact ⟨1, _, by omega, by go_num, by rw [HS.out]; go_num, by first | rfl | exact World.drewN_drewN _ _ _⟩
        case measure => simp [intOf]; omega
      · obtain ⟨j, rfl⟩ : ∃ j, k = j + 1 := ⟨k - 1, by omega⟩
        have hcp := hc j (by omega)
        have hm := hmono j
        have hw : IntKind.i64.wrap ((j : Int) + 1 - 1) = (j : Int) := by rw [IntKind.wrap_i64]; omega
        have hd : decide (f j < f (j + 1)) = false := decide_eq_false (by omega)
        have b1 : (j : Int) < (len : Int) := by omega
        have b2 : (j : Int) + 1 < (len : Int) := by omega
        clear h0
        go_wp2
        go_quiet (fail)
        go_wp2
        go_roundw
        case rel => exact ⟨j + 1 + 1, _, by omega, by go_num, by rw [HS.out]; go_num, by first | rfl | exact World.drewN_drewN _ _ _⟩
        case measure => simp [intOf]; omega
    · have hkl : k = len := by omega
      subst hkl
      obtain ⟨j, rfl⟩ : ∃ j, k = j + 1 := ⟨k - 1, by omega⟩
      rw [show j + 1 - 1 = j by omega] at hsp
      have c0 := hc 0 (by omega)
      have cl := hc j (by omega)
      have f0 := hf 0
      have fj := hf j
      have hw : IntKind.i64.wrap ((j : Int) + 1 - 1) = (j : Int) := by rw [IntKind.wrap_i64]; omega
      have b1 : (j : Int) < (j : Int) + 1 := by omega
      go_wp2
      go_quiet (fail)
      go_wp2
      go_ret
      exact ⟨rfl, _, by first | rfl | exact World.drewN_drewN _ _ _⟩

end Go.Proofs.Qxb6600858a
