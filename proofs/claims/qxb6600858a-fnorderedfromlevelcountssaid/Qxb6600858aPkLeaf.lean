/-
  THE WALK of packLevel (31) over no children: the leaves.
-/
import Derived.Test.Qxb6600858aPkLeafs
namespace Go.Proofs.Qxb6600858a
open Go.RowKit

set_option maxRecDepth 100000 in
set_option maxHeartbeats 1600000 in
theorem pack_leaf (vb m : Nat) (S : Nat → ByteArray) (w : World) (hm : m ≤ 65536) (hv : w.rowIs vb 43 (m * 2) (vcell S)) :
    Calls Try.prog 31 #[.slice (some ⟨vb, 0, none⟩) m m, .slice none 0 0] w fun e w' => 
      e = .returned (.tuple #[.slice (some ⟨w.heap.size, 0, none⟩) (Pk.cnt m) (Pk.cnt m), .slice (some ⟨w.heap.size + 1, 0, none⟩) (Pk.cnt m - 1) (Pk.cnt m - 1)]) ∧
      Leafs w vb m S (Pk.cnt m) w' := by
  obtain ⟨c, hc⟩ : ∃ c, c = Pk.cnt m := ⟨_, rfl⟩
  obtain ⟨b, hb⟩ : ∃ b, b = c - 1 := ⟨_, rfl⟩
  obtain ⟨h, hh⟩ : ∃ h, h = Pk.held m := ⟨_, rfl⟩
  have c1 := Pk.cnt_pos m
  have c2 := Pk.cnt_bound m hm
  have c3 := Pk.cnt_add m
  have hcq : 1 ≤ c := by omega
  have hcb : c ≤ 1025 := by omega
  have hbc : b < c := by omega
  have hbc' : c ≤ b + 1 := by omega
  have e1 : ((m : Int) + 63 + 1) / 64 = (c : Int) := by rw [hc]; unfold Pk.cnt; omega
  have e2 : (c : Int) - 1 = (b : Int) := by omega
  have e3 : (m : Int) - (b : Int) = (h : Int) := by omega
  have HC : Hid (c = Pk.cnt m) := hc
  have HB : Hid (b = c - 1) := hb
  have HH : Hid (h = Pk.held m) := hh
  have mk1 := make_ptrs c (by omega)
  have mk2 := make_vals0 b (by omega)
  have hh2 : h ≤ 65536 := by omega
  clear hc hb hh c1 c2 c3
  go_enter Try.func31, Try.ntmps31
  go_wp2
  rw [e1]
  clear e1 e3 mk1 mk2
  obtain ⟨q, hq⟩ : ∃ q, q = Pk.quo m := ⟨_, rfl⟩
  obtain ⟨r, hr⟩ : ∃ r, r = Pk.rem m := ⟨_, rfl⟩
  have e4 : (h : Int) / (c : Int) = (q : Int) := by rw [HH.out, HC.out, hq]; rfl
  have e5 : (h : Int) % (c : Int) = (r : Int) := by rw [HH.out, HC.out, hr]; rfl
  have HQ : Hid (q = Pk.quo m) := hq
  have HR : Hid (r = Pk.rem m) := hr
  have hq63 : q ≤ 63 := by rw [hq]; exact Pk.quo_le m
  clear hq hr
  go_loopw [0, 1, 8, 9, 31] (fun v0 v1 v8 v9 v31 wr => ∃ k : Nat, k ≤ c ∧ v31 = .int .i64 k ∧ v1 = .slice none 0 0 ∧ v8 = .slice (some ⟨w.heap.size, 0, none⟩) k c ∧ v9 = .slice (some ⟨w.heap.size + 1, 0, none⟩) (min k b) b ∧
      (k < c → v0 = .slice (some ⟨vb, Pk.pos m k * 2, none⟩) (m - Pk.pos m k) (m - Pk.pos m k)) ∧ Leafs w vb m S k wr)
    (fun _ _ _ _ i _ => c - (intOf i).toNat)
  case atStart =>
    refine ⟨0, Nat.zero_le _, rfl, rfl, rfl, by simp, fun _ => by simp [Pk.pos_zero], ?_⟩
    have := leafs_start w vb m S
    rw [← HC.out, ← HB.out] at this
    exact this
  case round =>
    obtain ⟨k, hk, rfl, rfl, rfl, rfl, h0, hL⟩ := hrel
    by_cases hlt : k < c
    · have hmin : min k b = k := by omega
      obtain rfl := h0 hlt
      rw [hmin]
      obtain ⟨p, hp⟩ : ∃ p, p = Pk.pos m k := ⟨_, rfl⟩
      obtain ⟨t, ht⟩ : ∃ t, t = Pk.tk m k := ⟨_, rfl⟩
      have hpm : p + t ≤ m := by rw [hp, ht]; exact Pk.pos_in m k (by rw [← HC.out]; exact hlt)
      have ht63 : t ≤ 63 := by rw [ht]; exact Pk.tk_le m k
      have hsz0 := hL.size (by rw [← HC.out]; exact hlt)
      have hvb := hv.lt
      have g0 : w.heap.size < wr.heap.size := by omega
      have g1 : w.heap.size < wr.heap.size + 1 := by omega
      have g2 : w.heap.size < wr.heap.size + 1 + 1 := by omega
      have g3 : w.heap.size + 1 < wr.heap.size := by omega
      have g4 : w.heap.size + 1 < wr.heap.size + 1 := by omega
      have g5 : w.heap.size + 1 < wr.heap.size + 1 + 1 := by omega
      have g6 : vb < wr.heap.size := by omega
      have g7 : vb < wr.heap.size + 1 := by omega
      have g8 : vb < wr.heap.size + 1 + 1 := by omega
      have g9 : ¬ vb = w.heap.size := by omega
      have g10 : ¬ vb = w.heap.size + 1 := by omega
      have HZ : Hid (wr.heap.size = w.heap.size + 2 + 3 * k) := hsz0
      clear hsz0
      rw [← hp]
      have HP : Hid (p = Pk.pos m k) := hp
      have HT : Hid (t = Pk.tk m k) := ht
      clear hp hmin
      have nod := hL.nodes
      have bet := hL.betw
      rw [← HC.out] at nod bet
      rw [← HB.out] at bet
      have cn := nod.cell hlt
      have fn := nod.frozen k
      rw [if_neg (Nat.lt_irrefl k)] at cn
      have HS : Hid (k + 1 < c → Pk.pos m (k + 1) = p + t + 1) := fun _ => by rw [HP.out, HT.out]; exact Pk.pos_succ m k
      have e6 : (k < r ∧ (q : Int) + 1 = (t : Int)) ∨ (r ≤ k ∧ (q : Int) = (t : Int)) := by
        rw [ht, HQ.out]
        unfold Pk.tk
        by_cases hkr : k < r
        · exact .inl ⟨hkr, by rw [if_pos (by rw [← HR.out]; exact hkr)]; rfl⟩
        · exact .inr ⟨by omega, by rw [if_neg (by rw [← HR.out]; exact hkr)]; rfl⟩
      clear ht
      by_cases hkb : k < b
      · have cb0 := bet.cell (i := k * 2) (by omega)
        have cb1 := bet.cell (i := k * 2 + 1) (by omega)
        have fb0 := bet.frozen (k * 2)
        have fb1 := bet.frozen (k * 2 + 1)
        have hmore : p + t + 1 + 31 ≤ m := by rw [HP.out, HT.out]; exact Pk.pos_more m k (by rw [← HC.out]; omega)
        have cv0 : wr.cell? ⟨vb, p * 2 + t * 2, none⟩ = some (.string (S (p + t))) := by
          rw [hL.below.cell (p := ⟨vb, p * 2 + t * 2, none⟩) hvb, hv.cell (by omega), ← Nat.add_mul, vcell_even]
        have cv1 : wr.cell? ⟨vb, p * 2 + t * 2 + 1, none⟩ = some (.int .i64 1) := by
          rw [hL.below.cell (p := ⟨vb, p * 2 + t * 2 + 1, none⟩) hvb, hv.cell (by omega), ← Nat.add_mul, vcell_odd]
        have HL := leafs_more hL (by rw [← HC.out]; omega) HP.out HT.out
        clear nod bet hL
        rcases e6 with ⟨hkr, e6⟩ | ⟨hkr, e6⟩
        all_goals
          go_wp2_with fail
          go_roundw
          case rel =>
            refine ⟨k + 1, by omega, by go_num, rfl, rfl, ?_, fun h => ?_, HL⟩
            · rw [Nat.min_eq_left (by omega)]
            · rw [HS.out h, show p * 2 + t * 2 + 2 = (p + t + 1) * 2 by omega, show m - p - t - 1 = m - (p + t + 1) by omega]
          case measure => simp [intOf]; omega
      · have hlast : m ≤ p + t := by rw [HP.out, HT.out, Pk.pos_last m k (by rw [← HC.out]; omega)]; exact Nat.le_refl _
        have HL := leafs_last hL (by rw [← HC.out]; omega) HP.out HT.out
        clear nod bet hL
        rcases e6 with ⟨hkr, e6⟩ | ⟨hkr, e6⟩
        all_goals
          go_wp2_with fail
          go_roundw
          case rel =>
            refine ⟨k + 1, by omega, by go_num, rfl, rfl, ?_, fun h => by omega, HL⟩
            rw [show min (k + 1) b = k by omega]
          case measure => simp [intOf]; omega
    · have hkc : k = c := by omega
      rw [hkc, show min c b = b by omega]
      rw [hkc, HC.out] at hL
      go_wp2_with fail
      go_ret2
      exact ⟨by rw [← HC.out, ← HB.out]; rfl, hL⟩

end Go.Proofs.Qxb6600858a
