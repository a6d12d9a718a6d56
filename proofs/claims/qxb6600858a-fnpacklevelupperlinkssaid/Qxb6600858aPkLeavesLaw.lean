/-
  THE WALK of FnPackLevelLeavesExact (6).
-/
import Derived.Test.Qxb6600858aPkLeaf
import Derived.Test.Qxb6600858aPkSmall
import Derived.Test.Qxb6600858aPkEq
namespace Go.Proofs.Qxb6600858a
open Go.RowKit

theorem zzPack_leaf (vb m : Nat) (S : Nat → ByteArray) (w : World) (hm : m ≤ 65536) (hv : w.rowIs vb 43 (m * 2) (vcell S)) :
    Calls Try.prog 17 #[.slice (some ⟨vb, 0, none⟩) m m, .slice none 0 0] w fun e w' =>
      e = .returned (.tuple #[.slice (some ⟨w.heap.size, 0, none⟩) (Pk.cnt m) (Pk.cnt m), .slice (some ⟨w.heap.size + 1, 0, none⟩) (Pk.cnt m - 1) (Pk.cnt m - 1)]) ∧
      Leafs w vb m S (Pk.cnt m) w' := by
  have H := pack_leaf vb m S w hm hv
  go_enter Try.func17, Try.ntmps17
  go_wp2_with fail
  refine H.mono ?_
  rintro e w' ⟨rfl, hL⟩
  go_wp2_with fail
  go_ret2
  exact ⟨rfl, hL⟩

theorem Try.info3 : (Try.prog.info? 3).map (fun i => (i.zero, i.size, i.bytes)) = some (some (.int .i64 0), 1, 8) := by kernel_rfl

theorem row_step {n k t c : Nat} (ht : t = Pk.tk n k) : ∀ i, i < c → (if i = k then Value.int .i64 (t : Nat) else if i < k then .int .i64 (Pk.tk n i : Nat) else .int .i64 0) = if i < k + 1 then Value.int .i64 (Pk.tk n i : Nat) else .int .i64 0 := by
  intro i _
  by_cases e : i = k
  · subst e
    rw [if_pos rfl, if_pos (show i < i + 1 by omega), ht]
  · rw [if_neg e]
    by_cases h : i < k
    · rw [if_pos h, if_pos (show i < k + 1 by omega)]
    · rw [if_neg h, if_neg (show ¬ i < k + 1 by omega)]

theorem below_drewAny {B : Nat} {a w : World} (h : Below B a w) (n : Nat) : Below B a (w.drewN n) := ⟨h.os, h.tape, h.output, h.size, h.block⟩

set_option maxRecDepth 100000 in
set_option maxHeartbeats 1600000 in
theorem leavesExact_walk (n : Nat) (hn : n ≤ 65536) (w : World) :
    Calls Try.prog 6 #[.int .i64 n] w fun e w' => e = .returned (.bool true) ∧ Below w.heap.size w w' := by
  have HD := distinct_any n hn w
  go_enter Try.func6, Try.ntmps6
  go_wp2_with fail
  refine HD.mono ?_
  rintro e w1 ⟨S, rfl, hv, hb1⟩
  have HP := zzPack_leaf w.heap.size n S w1 hn hv
  go_wp2_with fail
  refine HP.mono ?_
  rintro e w2 ⟨rfl, hL⟩
  have HN := leastNodes_any n w2 hn
  have c1 := Pk.cnt_pos n
  have c2 := Pk.cnt_bound n hn
  have c3 := Pk.cnt_add n
  obtain ⟨c, hc⟩ : ∃ c, c = Pk.cnt n := ⟨_, rfl⟩
  obtain ⟨b, hb⟩ : ∃ b, b = c - 1 := ⟨_, rfl⟩
  rw [← hc, ← hb]
  rw [← hc] at HN c1 c2 c3
  have hcb : (c : Int) - 1 = (b : Int) := by omega
  have HC : Hid (c = Pk.cnt n) := hc
  have HB : Hid (b = c - 1) := hb
  have hbc : b < c := by omega
  have hbc' : c ≤ b + 1 := by omega
  clear hc hb c3 HD HP
  have hmk := run_make_row' (P := Try.prog) 36 3 (.int .i64 0) 8 Try.underlying36 Try.info3 rfl .i64 .i64 c (by omega) (by omega)
  go_wp2_with fail
  refine HN.mono ?_
  rintro e w' ⟨rfl, rfl⟩
  clear HN
  go_wp2_with fail
  clear hmk
  go_loopw [8, 9] (fun vp vi wr => ∃ k : Nat, k ≤ c ∧ vi = .int .i64 k ∧ vp = .int .i64 (min (Pk.pos n k) n : Nat) ∧
      wr.rowIs w2.heap.size 3 c (fun i => if i < k then .int .i64 (Pk.tk n i : Nat) else .int .i64 0) ∧ Below w2.heap.size w2 wr)
    (fun _ vi _ => c - (intOf vi).toNat)
  case atStart => exact ⟨0, Nat.zero_le _, rfl, by simp [Pk.pos_zero], (World.rowIs_made w2 _ c 3).congr (fun i _ => by simp), (Below.refl _ _).alloc (Nat.le_refl _) _⟩
  case round =>
    obtain ⟨k, hk, rfl, rfl, hrow, hbel⟩ := hrel
    by_cases hlt : k < c
    · obtain ⟨p, hp⟩ : ∃ p, p = Pk.pos n k := ⟨_, rfl⟩
      obtain ⟨t, ht⟩ : ∃ t, t = Pk.tk n k := ⟨_, rfl⟩
      have hpm : p + t ≤ n := by rw [hp, ht]; exact Pk.pos_in n k (by rw [← HC.out]; exact hlt)
      have ht63 : t ≤ 63 := by rw [ht]; exact Pk.tk_le n k
      have ht31 : 2 ≤ c → 31 ≤ t := fun h => by rw [ht]; exact Pk.tk_ge n k (by rw [← HC.out]; exact h)
      rw [← hp, Nat.min_eq_left (by omega)]
      have hleaf := hL.leaf k (by rw [← HC.out]; exact hlt)
      rw [← hp, ← ht] at hleaf
      have hlv := hleaf.lt
      have hnd := hL.nodes
      rw [← HC.out] at hnd
      have hndl := hnd.lt
      have cn : wr.cell? ⟨w1.heap.size, k, none⟩ = some (.pointer (some ⟨w1.heap.size + 2 + 3 * k, 0, none⟩)) := by
        rw [hbel.cell (p := ⟨w1.heap.size, k, none⟩) hndl, hnd.cell hlt, if_pos hlt]
      have l0 : wr.cell? ⟨w1.heap.size + 2 + 3 * k, 0, none⟩ = some (.slice (some ⟨w.heap.size, p * 2, none⟩) t t) := by
        rw [hbel.cell (p := ⟨w1.heap.size + 2 + 3 * k, 0, none⟩) hlv, hleaf.cell (by omega)]; rfl
      have l1 : wr.cell? ⟨w1.heap.size + 2 + 3 * k, 1, none⟩ = some (.slice none 0 0) := by
        rw [hbel.cell (p := ⟨w1.heap.size + 2 + 3 * k, 1, none⟩) hlv, hleaf.cell (by omega)]; rfl
      have l2 : wr.cell? ⟨w1.heap.size + 2 + 3 * k, 2, none⟩ = some (.int .i64 (t : Nat)) := by
        rw [hbel.cell (p := ⟨w1.heap.size + 2 + 3 * k, 2, none⟩) hlv, hleaf.cell (by omega)]; rfl
      have cr := hrow.cell hlt
      have fr := hrow.frozen k
      have HP : Hid (p = Pk.pos n k) := hp
      have HT : Hid (t = Pk.tk n k) := ht
      clear hp ht hleaf hnd
      have hvb := hv.lt
      have hs2 := hL.below.size
      have hne : ¬ w.heap.size = w2.heap.size := by omega
      have hne2 : ¬ w1.heap.size + 1 = w2.heap.size := by have := hL.betw.lt; omega
      by_cases hkb : k < b
      · have hc2 : 2 ≤ c := by omega
        have ht31' := ht31 hc2
        clear ht31
        go_wp2_with (first | (go_at_call 19; refine (nodeValues_any _ _ _ _ _ l0).mono ?_; rintro e w' ⟨rfl, rfl⟩) | (go_at_call 20; refine (nodeChildren_any _ _ _ _ _ l1).mono ?_; rintro e w' ⟨rfl, rfl⟩) | (go_at_call 21; refine (nodeSize_any _ _ _ l2).mono ?_; rintro e w' ⟨rfl, rfl⟩))
        obtain ⟨wo, hwo⟩ : ∃ wo : World, wo = wr.setCell ⟨w2.heap.size, k, none⟩ (.int .i64 (t : Nat)) := ⟨_, rfl⟩
        rw [← hwo]
        have hrow3 := (hrow.set k (.int .i64 (t : Nat)))
        have hbel3 := hbel.setCell (p := ⟨w2.heap.size, k, none⟩) (Nat.le_refl _) (.int .i64 (t : Nat))
        rw [← hwo] at hrow3 hbel3
        clear hwo cn l0 l1 l2 cr fr hrow hbel
        go_loopw [12] (fun vj w3 => ∃ j nq : Nat, j ≤ t ∧ vj = .int .i64 j ∧ w3 = wo.drewN nq) (fun vj _ => t - (intOf vj).toNat)
        case atStart => exact ⟨0, 0, Nat.zero_le _, rfl, rfl⟩
        case round =>
          obtain ⟨j, nq, hj, rfl, rfl⟩ := hrel
          by_cases hjt : j < t
          · obtain ⟨x, hx⟩ : ∃ x, x = p + j := ⟨_, rfl⟩
            have hw : IntKind.i64.wrap ((p : Int) + (j : Int)) = (x : Int) := by rw [IntKind.wrap_i64]; omega
            have hd : decide ((n : Int) ≤ (x : Int)) = false := decide_eq_false (by omega)
            have hd' : decide (n ≤ x) = false := decide_eq_false (by omega)
            have he : x * 2 = p * 2 + j * 2 := by omega
            have b1 : (x : Int) < (n : Int) := by omega
            clear hx
            have b2 : (j : Int) < (t : Int) := by omega
            have hpq := neq_same41 ⟨w.heap.size, p * 2 + j * 2, none⟩
            clear hrow3 hbel3
            go_wp2
            go_quiet (fail)
            go_wp2
            go_roundw
            case rel => exact ⟨j + 1, _, by omega, by go_num, rfl⟩
            case measure => simp [intOf]; omega
          · have hjt' : j = t := by omega
            subst hjt'
            obtain ⟨x, hx⟩ : ∃ x, x = p + j := ⟨_, rfl⟩
            have hmore : p + j + 1 + 31 ≤ n := by rw [HP.out, HT.out]; exact Pk.pos_more n k (by rw [← HC.out]; omega)
            have hps : Hid (Pk.pos n (k + 1) = x + 1) := by show Pk.pos n (k + 1) = _; rw [hx, HP.out, HT.out]; exact Pk.pos_succ n k
            have hxv : wo.cell? ⟨w.heap.size, x * 2, none⟩ = some (.string (S x)) := by
              rw [hbel3.cell (p := ⟨w.heap.size, x * 2, none⟩) (by show w.heap.size < w2.heap.size; omega), hL.below.cell (p := ⟨w.heap.size, x * 2, none⟩) hvb, hv.cell (by omega), vcell_even]
            have hxv1 : wo.cell? ⟨w.heap.size, x * 2 + 1, none⟩ = some (.int .i64 1) := by
              rw [hbel3.cell (p := ⟨w.heap.size, x * 2 + 1, none⟩) (by show w.heap.size < w2.heap.size; omega), hL.below.cell (p := ⟨w.heap.size, x * 2 + 1, none⟩) hvb, hv.cell (by omega), vcell_odd]
            have hbt := hL.betw
            rw [← HC.out, ← HB.out] at hbt
            have hbtl := hbt.lt
            have hyv : wo.cell? ⟨w1.heap.size + 1, k * 2, none⟩ = some (.string (S x)) := by
              rw [hbel3.cell (p := ⟨w1.heap.size + 1, k * 2, none⟩) hbtl, hbt.cell (by omega), if_pos (by omega), vcell_even, hx, HP.out, HT.out]
            have hyv1 : wo.cell? ⟨w1.heap.size + 1, k * 2 + 1, none⟩ = some (.int .i64 1) := by
              rw [hbel3.cell (p := ⟨w1.heap.size + 1, k * 2 + 1, none⟩) hbtl, hbt.cell (by omega), if_pos (by omega), vcell_odd]
            have hd : decide ((n : Int) ≤ (x : Int)) = false := decide_eq_false (by omega)
            have hd' : decide (n ≤ x) = false := decide_eq_false (by omega)
            have b1 : (x : Int) < (n : Int) := by omega
            have b2 : (k : Int) < (b : Int) := by omega
            have hxi : (p : Int) + (j : Int) = (x : Int) := by omega
            have hrow4 := hrow3.congr (g := fun i => if i < k + 1 then .int .i64 (Pk.tk n i : Nat) else .int .i64 0) (row_step HT.out)
            clear hx hbt hrow3
            go_wp2
            go_quiet (fail)
            go_wp2
            go_roundw
            case rel =>
              refine ⟨k + 1, by omega, by go_num, ?_, hrow4, below_drewAny hbel3 _ ⟩
              rw [hps.out, Nat.min_eq_left (by omega)]
              go_num
            case measure => simp [intOf]; omega
      · by_cases hc2 : 2 ≤ c
        · have ht31' := ht31 hc2
          clear ht31
          go_wp2_with (first | (go_at_call 19; refine (nodeValues_any _ _ _ _ _ l0).mono ?_; rintro e w' ⟨rfl, rfl⟩) | (go_at_call 20; refine (nodeChildren_any _ _ _ _ _ l1).mono ?_; rintro e w' ⟨rfl, rfl⟩) | (go_at_call 21; refine (nodeSize_any _ _ _ l2).mono ?_; rintro e w' ⟨rfl, rfl⟩))
          obtain ⟨wo, hwo⟩ : ∃ wo : World, wo = wr.setCell ⟨w2.heap.size, k, none⟩ (.int .i64 (t : Nat)) := ⟨_, rfl⟩
          rw [← hwo]
          have hrow3 := (hrow.set k (.int .i64 (t : Nat)))
          have hbel3 := hbel.setCell (p := ⟨w2.heap.size, k, none⟩) (Nat.le_refl _) (.int .i64 (t : Nat))
          rw [← hwo] at hrow3 hbel3
          clear hwo cn l0 l1 l2 cr fr hrow hbel
          go_loopw [12] (fun vj w3 => ∃ j nq : Nat, j ≤ t ∧ vj = .int .i64 j ∧ w3 = wo.drewN nq) (fun vj _ => t - (intOf vj).toNat)
          case atStart => exact ⟨0, 0, Nat.zero_le _, rfl, rfl⟩
          case round =>
            obtain ⟨j, nq, hj, rfl, rfl⟩ := hrel
            by_cases hjt : j < t
            · obtain ⟨x, hx⟩ : ∃ x, x = p + j := ⟨_, rfl⟩
              have hw : IntKind.i64.wrap ((p : Int) + (j : Int)) = (x : Int) := by rw [IntKind.wrap_i64]; omega
              have hd : decide ((n : Int) ≤ (x : Int)) = false := decide_eq_false (by omega)
              have hd' : decide (n ≤ x) = false := decide_eq_false (by omega)
              have he : x * 2 = p * 2 + j * 2 := by omega
              have b1 : (x : Int) < (n : Int) := by omega
              clear hx
              have b2 : (j : Int) < (t : Int) := by omega
              have hpq := neq_same41 ⟨w.heap.size, p * 2 + j * 2, none⟩
              clear hrow3 hbel3
              go_wp2
              go_quiet (fail)
              go_wp2
              go_roundw
              case rel => exact ⟨j + 1, _, by omega, by go_num, rfl⟩
              case measure => simp [intOf]; omega
            · have hjt' : j = t := by omega
              subst hjt'
              have hlast : p + j = n := by rw [HP.out, HT.out]; exact Pk.pos_last n k (by rw [← HC.out]; omega)
              have HLA : Hid (p + j = n) := hlast
              have HPS : Hid (Pk.pos n (k + 1) = p + j + 1) := by show Pk.pos n (k + 1) = _; rw [HP.out, HT.out]; exact Pk.pos_succ n k
              have hrow4 := hrow3.congr (g := fun i => if i < k + 1 then .int .i64 (Pk.tk n i : Nat) else .int .i64 0) (row_step HT.out)
              clear hlast hrow3
              go_wp2
              go_roundw
              case rel =>
                refine ⟨k + 1, by omega, by go_num, ?_, hrow4, below_drewAny hbel3 _⟩
                rw [HPS.out, Nat.min_eq_right (by have := HLA.out; omega), ← HLA.out]
                go_num
              case measure => simp [intOf]; omega
        · clear ht31
          go_wp2_with (first | (go_at_call 19; refine (nodeValues_any _ _ _ _ _ l0).mono ?_; rintro e w' ⟨rfl, rfl⟩) | (go_at_call 20; refine (nodeChildren_any _ _ _ _ _ l1).mono ?_; rintro e w' ⟨rfl, rfl⟩) | (go_at_call 21; refine (nodeSize_any _ _ _ l2).mono ?_; rintro e w' ⟨rfl, rfl⟩))
          obtain ⟨wo, hwo⟩ : ∃ wo : World, wo = wr.setCell ⟨w2.heap.size, k, none⟩ (.int .i64 (t : Nat)) := ⟨_, rfl⟩
          rw [← hwo]
          have hrow3 := (hrow.set k (.int .i64 (t : Nat)))
          have hbel3 := hbel.setCell (p := ⟨w2.heap.size, k, none⟩) (Nat.le_refl _) (.int .i64 (t : Nat))
          rw [← hwo] at hrow3 hbel3
          clear hwo cn l0 l1 l2 cr fr hrow hbel
          go_loopw [12] (fun vj w3 => ∃ j nq : Nat, j ≤ t ∧ vj = .int .i64 j ∧ w3 = wo.drewN nq) (fun vj _ => t - (intOf vj).toNat)
          case atStart => exact ⟨0, 0, Nat.zero_le _, rfl, rfl⟩
          case round =>
            obtain ⟨j, nq, hj, rfl, rfl⟩ := hrel
            by_cases hjt : j < t
            · obtain ⟨x, hx⟩ : ∃ x, x = p + j := ⟨_, rfl⟩
              have hw : IntKind.i64.wrap ((p : Int) + (j : Int)) = (x : Int) := by rw [IntKind.wrap_i64]; omega
              have hd : decide ((n : Int) ≤ (x : Int)) = false := decide_eq_false (by omega)
              have hd' : decide (n ≤ x) = false := decide_eq_false (by omega)
              have he : x * 2 = p * 2 + j * 2 := by omega
              have b1 : (x : Int) < (n : Int) := by omega
              clear hx
              have b2 : (j : Int) < (t : Int) := by omega
              have hpq := neq_same41 ⟨w.heap.size, p * 2 + j * 2, none⟩
              clear hrow3 hbel3
              go_wp2
              go_quiet (fail)
              go_wp2
              go_roundw
              case rel => exact ⟨j + 1, _, by omega, by go_num, rfl⟩
              case measure => simp [intOf]; omega
            · have hjt' : j = t := by omega
              subst hjt'
              have hlast : p + j = n := by rw [HP.out, HT.out]; exact Pk.pos_last n k (by rw [← HC.out]; omega)
              have HLA : Hid (p + j = n) := hlast
              have HPS : Hid (Pk.pos n (k + 1) = p + j + 1) := by show Pk.pos n (k + 1) = _; rw [HP.out, HT.out]; exact Pk.pos_succ n k
              have hrow4 := hrow3.congr (g := fun i => if i < k + 1 then .int .i64 (Pk.tk n i : Nat) else .int .i64 0) (row_step HT.out)
              clear hlast hrow3
              go_wp2
              go_roundw
              case rel =>
                refine ⟨k + 1, by omega, by go_num, ?_, hrow4, below_drewAny hbel3 _⟩
                rw [HPS.out, Nat.min_eq_right (by have := HLA.out; omega), ← HLA.out]
                go_num
              case measure => simp [intOf]; omega
    · have hkc : k = c := by omega
      subst hkc
      have HPE : Hid (min (Pk.pos n k) n = n) := by
        show min (Pk.pos n k) n = n
        rw [HC.out, Pk.pos_end]; omega
      rw [HPE.out]
      have hsum : Hid ((n : Int) - (b : Int) = ((Pk.sumTo (Pk.tk n) 0 k : Nat) : Int)) := by
        show (n : Int) - (b : Int) = _
        rw [Pk.sumTo_tk, HC.out, Pk.ps_end]
        have := Pk.cnt_add n
        rw [← HC.out] at this
        have := HB.out
        omega
      have HE := evenShare_any w2.heap.size k k (Pk.tk n) wr (by omega) (by omega) (Pk.tk_le n) (Pk.tk_mono n) (Pk.tk_spread n _ _) (fun i hi => by rw [hrow.cell hi, if_pos hi])
      go_wp2_with fail
      rw [hsum.out]
      refine HE.mono ?_
      rintro e w' ⟨rfl, nq, rfl⟩
      clear HE
      go_wp2_with fail
      go_ret
      refine ⟨rfl, (hb1.trans (hL.below.mono ?_)).trans ((below_drewAny hbel nq).mono ?_)⟩
      · exact hb1.size
      · have := hb1.size
        have := hL.below.size
        omega

end Go.Proofs.Qxb6600858a
