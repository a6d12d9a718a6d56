/-
  THE WALK of FnPackLevelUpperLinks (7).
-/
import Derived.Test.Qxb6600858aPkLeavesLaw
import Derived.Test.Qxb6600858aPkUpper
namespace Go.Proofs.Qxb6600858a
open Go.RowKit

theorem zzPack_upper (vb cb m : Nat) (S : Nat → ByteArray) (cp sz : Nat → Nat) (w : World) (hm : m ≤ 65536) (hv : w.rowIs vb 43 (m * 2) (vcell S))
    (hcb : w.rowIs cb 37 (m + 1) (fun i => .pointer (some ⟨cp i, 0, none⟩))) (hsz : ∀ i, i ≤ m → w.cell? ⟨cp i, 2, none⟩ = some (.int .i64 (sz i : Nat))) (hszb : ∀ i, sz i ≤ 65536) :
    Calls Try.prog 17 #[.slice (some ⟨vb, 0, none⟩) m m, .slice (some ⟨cb, 0, none⟩) (m + 1) (m + 1)] w fun e w' =>
      e = .returned (.tuple #[.slice (some ⟨w.heap.size, 0, none⟩) (Pk.cnt m) (Pk.cnt m), .slice (some ⟨w.heap.size + 1, 0, none⟩) (Pk.cnt m - 1) (Pk.cnt m - 1)]) ∧
      Uppers w vb m S cp sz (Pk.cnt m) w' := by
  have H := pack_upper vb cb m S cp sz w hm hv hcb hsz hszb
  go_enter Try.func17, Try.ntmps17
  go_wp2_with fail
  refine H.mono ?_
  rintro e w' ⟨rfl, hL⟩
  go_wp2_with fail
  go_ret2
  exact ⟨rfl, hL⟩

/-- The leaves' rows, as the next level reads them. -/
theorem leafs_vals {w w' : World} {vb n : Nat} {S : Nat → ByteArray} (h : Leafs w vb n S (Pk.cnt n) w') {m : Nat} (hm : m = Pk.cnt n - 1) :
    w'.rowIs (w.heap.size + 1) 43 (m * 2) (vcell (fun i => S (Pk.pos n i + Pk.tk n i))) := by
  subst hm
  exact h.betw.congr (fun j hj => by rw [if_pos (by omega)])
theorem leafs_kids {w w' : World} {vb n : Nat} {S : Nat → ByteArray} (h : Leafs w vb n S (Pk.cnt n) w') {m : Nat} (hm : m = Pk.cnt n - 1) :
    w'.rowIs w.heap.size 37 (m + 1) (fun i => .pointer (some ⟨w.heap.size + 2 + 3 * i, 0, none⟩)) := by
  have := Pk.cnt_pos n
  have e : m + 1 = Pk.cnt n := by omega
  rw [e]
  exact h.nodes.congr (fun j hj => by rw [if_pos hj])
theorem leafs_sizes {w w' : World} {vb n : Nat} {S : Nat → ByteArray} (h : Leafs w vb n S (Pk.cnt n) w') {m : Nat} (hm : m = Pk.cnt n - 1) :
    ∀ i, i ≤ m → w'.cell? ⟨w.heap.size + 2 + 3 * i, 2, none⟩ = some (.int .i64 (Pk.tk n i : Nat)) := by
  intro i hi
  have := Pk.cnt_pos n
  exact (h.leaf i (by omega)).cell (i := 2) (by omega)

set_option maxRecDepth 100000 in
set_option maxHeartbeats 4000000 in
theorem upperLinks_walk (n : Nat) (hn : n ≤ 65536) (w : World) :
    Calls Try.prog 7 #[.int .i64 n] w fun e w' => e = .returned (.bool true) ∧ Below w.heap.size w w' := by
  have HD := distinct_any n hn w
  go_enter Try.func7, Try.ntmps7
  go_wp2_with fail
  refine HD.mono ?_
  rintro e w1 ⟨S, rfl, hv, hb1⟩
  have HP := zzPack_leaf w.heap.size n S w1 hn hv
  go_wp2_with fail
  refine HP.mono ?_
  rintro e w2 ⟨rfl, hL⟩
  have c1 := Pk.cnt_pos n
  have c2 := Pk.cnt_bound n hn
  have c3 := Pk.cnt_add n
  obtain ⟨m, hm⟩ : ∃ m, m = Pk.cnt n - 1 := ⟨_, rfl⟩
  have hv2 := leafs_vals hL hm
  have hk2 := leafs_kids hL hm
  have hs2 := leafs_sizes hL hm
  have hmm : Pk.cnt n = m + 1 := by omega
  have hm5 : m ≤ 1024 := by omega
  rw [hmm, Nat.add_sub_cancel]
  have HP2 := zzPack_upper (w1.heap.size + 1) w1.heap.size m (fun i => S (Pk.pos n i + Pk.tk n i)) (fun i => w1.heap.size + 2 + 3 * i) (Pk.tk n) w2 (by omega) hv2 hk2 hs2 (fun i => by have := Pk.tk_le n i; omega)
  have HLV : Hid (Pk.held n + m = n) := by show _ = _; omega
  have HMN : Hid (m = Pk.cnt n - 1) := hm
  clear HD HP c1 c2 c3 hm hmm
  go_wp2_with fail
  refine HP2.mono ?_
  rintro e w3 ⟨rfl, hU⟩
  clear HP2
  have HN := leastNodes_any m w3 (by omega)
  have c1 := Pk.cnt_pos m
  have c2 := Pk.cnt_bound m (by omega)
  have c3 := Pk.cnt_add m
  obtain ⟨c, hc⟩ : ∃ c, c = Pk.cnt m := ⟨_, rfl⟩
  obtain ⟨b, hb⟩ : ∃ b, b = c - 1 := ⟨_, rfl⟩
  rw [← hc, ← hb]
  rw [← hc] at HN c1 c2 c3
  have hcb : (c : Int) - 1 = (b : Int) := by omega
  have HC : Hid (c = Pk.cnt m) := hc
  have HB : Hid (b = c - 1) := hb
  have hbc : b < c := by omega
  have hbc' : c ≤ b + 1 := by omega
  clear hc hb c3
  have hmk := run_make_row' (P := Try.prog) 36 3 (.int .i64 0) 8 Try.underlying36 Try.info3 rfl .i64 .i64 c (by omega) (by omega)
  go_wp2_with fail
  refine HN.mono ?_
  rintro e w' ⟨rfl, rfl⟩
  clear HN
  go_wp2_with fail
  clear hmk
  have hb2 := hL.below.size
  have hb3 := hU.below.size
  have hv2l := hv2.lt
  have hk2l := hk2.lt
  go_loopw [11, 12, 13, 14] (fun vc vp vt vi wr => ∃ k : Nat, k ≤ c ∧ vi = .int .i64 k ∧ vp = .int .i64 (min (Pk.pos m k) m : Nat) ∧ vc = .int .i64 (Pk.pos m k : Nat) ∧ vt = .int .i64 (Pk.ps m k + Pk.sumTo (Pk.tk n) 0 (Pk.pos m k) : Nat) ∧
      wr.rowIs w3.heap.size 3 c (fun i => if i < k then .int .i64 (Pk.tk m i : Nat) else .int .i64 0) ∧ Below w3.heap.size w3 wr)
    (fun _ _ _ vi _ => c - (intOf vi).toNat)
  case atStart => exact ⟨0, Nat.zero_le _, rfl, by simp [Pk.pos_zero], by simp [Pk.pos_zero], by simp [Pk.pos_zero, Pk.ps_zero, Pk.sumTo], (World.rowIs_made w3 _ c 3).congr (fun i _ => by simp), (Below.refl _ _).alloc (Nat.le_refl _) _⟩
  case round =>
    obtain ⟨k, hk, rfl, rfl, rfl, rfl, hrow, hbel⟩ := hrel
    by_cases hlt : k < c
    · obtain ⟨p, hp⟩ : ∃ p, p = Pk.pos m k := ⟨_, rfl⟩
      obtain ⟨t, ht⟩ : ∃ t, t = Pk.tk m k := ⟨_, rfl⟩
      obtain ⟨T, hT⟩ : ∃ T, T = Pk.ps m k + Pk.sumTo (Pk.tk n) 0 (Pk.pos m k) := ⟨_, rfl⟩
      have hpm : p + t ≤ m := by rw [hp, ht]; exact Pk.pos_in m k (by rw [← HC.out]; exact hlt)
      have ht63 : t ≤ 63 := by rw [ht]; exact Pk.tk_le m k
      have hTb : T ≤ 1000000 := by
        have h1 := Pk.sumTo_le (Pk.tk n) 63 0 (Pk.pos m k) (fun i _ _ => Pk.tk_le n i)
        have h2 := Pk.sumTo_le (Pk.tk m) 63 0 k (fun i _ _ => Pk.tk_le m i)
        rw [Pk.sumTo_tk] at h2
        rw [hT]; omega
      have ht31 : 2 ≤ c → 31 ≤ t := fun h => by rw [ht]; exact Pk.tk_ge m k (by rw [← HC.out]; exact h)
      rw [← hT, ← hp, Nat.min_eq_left (by omega)]
      have hnode := hU.node k (by rw [← HC.out]; exact hlt)
      have hkids := hU.kids k (by rw [← HC.out]; exact hlt)
      obtain ⟨D, hD⟩ : ∃ D, D = w2.heap.size + 2 + 4 * k := ⟨_, rfl⟩
      obtain ⟨Z, hZ⟩ : ∃ Z, Z = t + Pk.sumTo (Pk.tk n) p (t + 1) := ⟨_, rfl⟩
      rw [← hD, ← hp, ← ht, ← hZ] at hnode
      rw [← hD, ← hp, ← ht] at hkids
      have hlv := hnode.lt
      have hkv := hkids.lt
      have hnd := hU.nodes
      rw [← HC.out] at hnd
      have hndl := hnd.lt
      have cn : wr.cell? ⟨w2.heap.size, k, none⟩ = some (.pointer (some ⟨D, 0, none⟩)) := by
        rw [hbel.cell (p := ⟨w2.heap.size, k, none⟩) hndl, hnd.cell hlt, if_pos hlt, hD]
      have l0 : wr.cell? ⟨D, 0, none⟩ = some (.slice (some ⟨w1.heap.size + 1, p * 2, none⟩) t t) := by
        rw [hbel.cell (p := ⟨D, 0, none⟩) hlv, hnode.cell (by omega)]; rfl
      have l1 : wr.cell? ⟨D, 1, none⟩ = some (.slice (some ⟨D + 1, 0, none⟩) (t + 1) 65) := by
        rw [hbel.cell (p := ⟨D, 1, none⟩) hlv, hnode.cell (by omega)]; rfl
      have l2 : w3.cell? ⟨D, 2, none⟩ = some (.int .i64 (Z : Nat)) := by
        rw [hnode.cell (by omega)]; rfl
      have cr := hrow.cell hlt
      have fr := hrow.frozen k
      have HP : Hid (p = Pk.pos m k) := hp
      have HT : Hid (t = Pk.tk m k) := ht
      have HTT : Hid (T = Pk.ps m k + Pk.sumTo (Pk.tk n) 0 (Pk.pos m k)) := hT
      have HZ : Hid (Z = t + Pk.sumTo (Pk.tk n) p (t + 1)) := hZ
      clear hp ht hnode hnd hT hZ hD
      have hne : ¬ w1.heap.size + 1 = w3.heap.size := by omega
      have hne2 : ¬ w2.heap.size + 1 = w3.heap.size := by have := hU.betw.lt; omega
      have hsn : ∀ wx : World, (binOp .eql 32 (.slice (some ⟨D + 1, 0, none⟩) (t + 1) 65) (.slice none 0 0)).run Try.prog wx = .ok (.bool false) wx := fun wx => by
        rw [Lib.run_eql_slice_nil wx 32 37 (some ⟨D + 1, 0, none⟩) (t + 1) 65 0 0 Try.underlying32]; rfl
      by_cases hkb : k < b
      · have hc2 : 2 ≤ c := by omega
        have ht31' := ht31 hc2
        clear ht31
        go_wp2_with (first | (go_at_call 19; refine (nodeValues_any _ _ _ _ _ l0).mono ?_; rintro e w' ⟨rfl, rfl⟩) | (go_at_call 20; refine (nodeChildren_any _ _ _ _ _ l1).mono ?_; rintro e w' ⟨rfl, rfl⟩))
        obtain ⟨wo, hwo⟩ : ∃ wo : World, wo = wr.setCell ⟨w3.heap.size, k, none⟩ (.int .i64 (t : Nat)) := ⟨_, rfl⟩
        rw [← hwo]
        have hrow3 := (hrow.set k (.int .i64 (t : Nat)))
        have hbel3 := hbel.setCell (p := ⟨w3.heap.size, k, none⟩) (Nat.le_refl _) (.int .i64 (t : Nat))
        rw [← hwo] at hrow3 hbel3
        clear hwo cn l0 l1 cr fr hrow hbel
        go_loopw [18] (fun vj w4 => ∃ j nq : Nat, j ≤ t ∧ vj = .int .i64 j ∧ w4 = wo.drewN nq) (fun vj _ => t - (intOf vj).toNat)
        case atStart => exact ⟨0, 0, Nat.zero_le _, rfl, rfl⟩
        case round =>
          obtain ⟨j, nq, hj, rfl, rfl⟩ := hrel
          by_cases hjt : j < t
          · obtain ⟨x, hx⟩ : ∃ x, x = p + j := ⟨_, rfl⟩
            have hw : IntKind.i64.wrap ((p : Int) + (j : Int)) = (x : Int) := by rw [IntKind.wrap_i64]; omega
            have hd : decide ((m : Int) ≤ (x : Int)) = false := decide_eq_false (by omega)
            have hd' : decide (m ≤ x) = false := decide_eq_false (by omega)
            have he : x * 2 = p * 2 + j * 2 := by omega
            have b1 : (x : Int) < (m : Int) := by omega
            clear hx
            have b2 : (j : Int) < (t : Int) := by omega
            have hpq := neq_same41 ⟨w1.heap.size + 1, p * 2 + j * 2, none⟩
            clear hrow3 hbel3
            go_wp2
            go_quiet (fail)
            go_wp2
            go_roundw
            case rel => exact ⟨j + 1, _, by omega, by go_num, rfl⟩
            case measure => simp [intOf]; omega
          · have hjt' : j = t := by omega
            subst hjt'
            obtain ⟨x, hx⟩ : ∃ x, x = p + j := ⟨_, rfl⟩
            have hmore : p + j + 1 + 31 ≤ m := by rw [HP.out, HT.out]; exact Pk.pos_more m k (by rw [← HC.out]; omega)
            have hxv : wo.cell? ⟨w1.heap.size + 1, x * 2, none⟩ = some (.string (S (Pk.pos n x + Pk.tk n x))) := by
              rw [hbel3.cell (p := ⟨w1.heap.size + 1, x * 2, none⟩) (by show w1.heap.size + 1 < w3.heap.size; omega), hU.below.cell (p := ⟨w1.heap.size + 1, x * 2, none⟩) hv2l, hv2.cell (by omega), vcell_even]
            have hxv1 : wo.cell? ⟨w1.heap.size + 1, x * 2 + 1, none⟩ = some (.int .i64 1) := by
              rw [hbel3.cell (p := ⟨w1.heap.size + 1, x * 2 + 1, none⟩) (by show w1.heap.size + 1 < w3.heap.size; omega), hU.below.cell (p := ⟨w1.heap.size + 1, x * 2 + 1, none⟩) hv2l, hv2.cell (by omega), vcell_odd]
            have hbt := hU.betw
            rw [← HC.out, ← HB.out] at hbt
            have hbtl := hbt.lt
            have hyv : wo.cell? ⟨w2.heap.size + 1, k * 2, none⟩ = some (.string (S (Pk.pos n x + Pk.tk n x))) := by
              rw [hbel3.cell (p := ⟨w2.heap.size + 1, k * 2, none⟩) hbtl, hbt.cell (by omega), if_pos (by omega), vcell_even, ← HP.out, ← HT.out, ← hx]
            have hyv1 : wo.cell? ⟨w2.heap.size + 1, k * 2 + 1, none⟩ = some (.int .i64 1) := by
              rw [hbel3.cell (p := ⟨w2.heap.size + 1, k * 2 + 1, none⟩) hbtl, hbt.cell (by omega), if_pos (by omega), vcell_odd]
            have hd : decide ((m : Int) ≤ (x : Int)) = false := decide_eq_false (by omega)
            have hd' : decide (m ≤ x) = false := decide_eq_false (by omega)
            have b1 : (x : Int) < (m : Int) := by omega
            have b2 : (k : Int) < (b : Int) := by omega
            have hxi : (p : Int) + (j : Int) = (x : Int) := by omega
            have HX : Hid (x = p + j) := hx
            have hrow4 := hrow3.congr (g := fun i => if i < k + 1 then .int .i64 (Pk.tk m i : Nat) else .int .i64 0) (row_step HT.out)
            have HVP : Hid (((x : Int) + 1) = ((min (Pk.pos m (k + 1)) m : Nat) : Int)) := by
              show _ = _
              rw [Pk.pos_succ, ← HP.out, ← HT.out, Nat.min_eq_left (by omega)]; omega
            clear hx hbt hrow3
            go_wp2
            go_quiet (fail)
            go_wp2
            go_loopw [11, 19, 20] (fun vc vs vj w4 => ∃ i nq : Nat, i ≤ j + 1 ∧ vj = .int .i64 i ∧ vc = .int .i64 (p + i : Nat) ∧ vs = .int .i64 (j + Pk.sumTo (Pk.tk n) p i : Nat) ∧ w4 = wo.drewN nq) (fun _ _ vj _ => j + 1 - (intOf vj).toNat)
            case atStart => exact ⟨0, _, Nat.zero_le _, rfl, by simp, by simp [Pk.sumTo], rfl⟩
            case round =>
              obtain ⟨i, nq, hi, rfl, rfl, rfl, rfl⟩ := hrel
              have hsb := Pk.sumTo_le (Pk.tk n) 63 p i (fun x _ _ => Pk.tk_le n x)
              by_cases hij : i < j + 1
              · obtain ⟨x, hx⟩ : ∃ x, x = p + i := ⟨_, rfl⟩
                rw [← hx]
                obtain ⟨y, hy⟩ : ∃ y, y = j + Pk.sumTo (Pk.tk n) p i := ⟨_, rfl⟩
                rw [← hy]
                obtain ⟨s, hs⟩ : ∃ s, s = Pk.tk n x := ⟨_, rfl⟩
                have hyb : y ≤ 1000000 := by omega
                have hsb2 : s ≤ 63 := by rw [hs]; exact Pk.tk_le n x
                have q1 : wo.cell? ⟨D + 1, i, none⟩ = some (.pointer (some ⟨w1.heap.size + 2 + 3 * x, 0, none⟩)) := by
                  rw [hbel3.cell (p := ⟨D + 1, i, none⟩) hkv, hkids.cell (by omega), if_pos hij, hx]
                have q2 : wo.cell? ⟨w1.heap.size, x, none⟩ = some (.pointer (some ⟨w1.heap.size + 2 + 3 * x, 0, none⟩)) := by
                  rw [hbel3.cell (p := ⟨w1.heap.size, x, none⟩) (by show w1.heap.size < w3.heap.size; omega), hU.below.cell (p := ⟨w1.heap.size, x, none⟩) hk2l, hk2.cell (by omega)]
                have q3 : ∀ z, (wo.drewN z).cell? ⟨w1.heap.size + 2 + 3 * x, 2, none⟩ = some (.int .i64 (s : Nat)) := fun z => by
                  show wo.cell? _ = _
                  have h0 := hs2 x (by omega)
                  have h1 : w1.heap.size + 2 + 3 * x < w2.heap.size := World.block_lt_of_cell? w2 _ h0
                  rw [hbel3.cell (p := ⟨w1.heap.size + 2 + 3 * x, 2, none⟩) (by show w1.heap.size + 2 + 3 * x < w3.heap.size; omega), hU.below.cell (p := ⟨w1.heap.size + 2 + 3 * x, 2, none⟩) h1, h0, hs]
                have hpq := neq_same37 ⟨w1.heap.size + 2 + 3 * x, 0, none⟩
                have hd : decide (((m : Int) + 1) ≤ (x : Int)) = false := decide_eq_false (by omega)
                have hd' : decide (m + 1 ≤ x) = false := decide_eq_false (by omega)
                have b3 : (x : Int) < (m : Int) + 1 := by omega
                have b4 : (i : Int) < (j : Int) + 1 := by omega
                have HG : Hid (j + Pk.sumTo (Pk.tk n) p (i + 1) = y + s) := by show _ = _; rw [hy, hs, hx]; simp only [Pk.sumTo]; omega
                have HX2 : Hid (x = p + i) := hx
                clear hx hy hs hbel3 hrow4
                go_wp2
                go_quiet (fail)
                go_wp2_with (go_at_call 21; refine (nodeSize_any _ _ _ (q3 _)).mono ?_; rintro e w' ⟨rfl, rfl⟩)
                go_roundw
                case rel => exact ⟨i + 1, _, by omega, by go_num, by rw [← Nat.add_assoc, ← HX2.out]; go_num, by rw [HG.out]; go_num, rfl⟩
                case measure => simp [intOf]; omega
              · have hij' : i = j + 1 := by omega
                subst hij'
                obtain ⟨x, hx⟩ : ∃ x, x = p + (j + 1) := ⟨_, rfl⟩
                rw [← hx, ← HZ.out]
                have hZb : Z ≤ 100000 := by have := HZ.out; omega
                have q5 : (wo.drewN nq).cell? ⟨D, 2, none⟩ = some (.int .i64 (Z : Nat)) := by
                  show wo.cell? _ = _
                  rw [hbel3.cell (p := ⟨D, 2, none⟩) hlv]; exact l2
                have HX2 : Hid (x = Pk.pos m (k + 1)) := by show _ = _; rw [hx, Pk.pos_succ, ← HP.out, ← HT.out]; omega
                have HT2 : Hid (T + Z = Pk.ps m (k + 1) + Pk.sumTo (Pk.tk n) 0 (Pk.pos m (k + 1))) := by
                  show _ = _
                  rw [HTT.out, HZ.out, Pk.ps_succ, Pk.pos_succ, ← HP.out, ← HT.out, show p + j + 1 = p + (j + 1) by omega, Pk.sumTo_add (Pk.tk n) 0 p (j + 1), Nat.zero_add]
                  omega
                clear hx
                go_wp2_with (go_at_call 21; refine (nodeSize_any _ _ _ q5).mono ?_; rintro e w' ⟨rfl, rfl⟩)
                go_roundw
                case rel => exact ⟨k + 1, by omega, by go_num, by rw [← HVP.out], by rw [HX2.out], by rw [← HT2.out]; go_num, hrow4, below_drewAny hbel3 _⟩
                case measure => simp [intOf]; omega
      · by_cases hc2 : 2 ≤ c
        · have ht31' := ht31 hc2
          clear ht31
          go_wp2_with (first | (go_at_call 19; refine (nodeValues_any _ _ _ _ _ l0).mono ?_; rintro e w' ⟨rfl, rfl⟩) | (go_at_call 20; refine (nodeChildren_any _ _ _ _ _ l1).mono ?_; rintro e w' ⟨rfl, rfl⟩))
          obtain ⟨wo, hwo⟩ : ∃ wo : World, wo = wr.setCell ⟨w3.heap.size, k, none⟩ (.int .i64 (t : Nat)) := ⟨_, rfl⟩
          rw [← hwo]
          have hrow3 := (hrow.set k (.int .i64 (t : Nat)))
          have hbel3 := hbel.setCell (p := ⟨w3.heap.size, k, none⟩) (Nat.le_refl _) (.int .i64 (t : Nat))
          rw [← hwo] at hrow3 hbel3
          clear hwo cn l0 l1 cr fr hrow hbel
          go_loopw [18] (fun vj w4 => ∃ j nq : Nat, j ≤ t ∧ vj = .int .i64 j ∧ w4 = wo.drewN nq) (fun vj _ => t - (intOf vj).toNat)
          case atStart => exact ⟨0, 0, Nat.zero_le _, rfl, rfl⟩
          case round =>
            obtain ⟨j, nq, hj, rfl, rfl⟩ := hrel
            by_cases hjt : j < t
            · obtain ⟨x, hx⟩ : ∃ x, x = p + j := ⟨_, rfl⟩
              have hw : IntKind.i64.wrap ((p : Int) + (j : Int)) = (x : Int) := by rw [IntKind.wrap_i64]; omega
              have hd : decide ((m : Int) ≤ (x : Int)) = false := decide_eq_false (by omega)
              have hd' : decide (m ≤ x) = false := decide_eq_false (by omega)
              have he : x * 2 = p * 2 + j * 2 := by omega
              have b1 : (x : Int) < (m : Int) := by omega
              clear hx
              have b2 : (j : Int) < (t : Int) := by omega
              have hpq := neq_same41 ⟨w1.heap.size + 1, p * 2 + j * 2, none⟩
              clear hrow3 hbel3
              go_wp2
              go_quiet (fail)
              go_wp2
              go_roundw
              case rel => exact ⟨j + 1, _, by omega, by go_num, rfl⟩
              case measure => simp [intOf]; omega
            · have hjt' : j = t := by omega
              subst hjt'
              have hlast : p + j = m := by rw [HP.out, HT.out]; exact Pk.pos_last m k (by rw [← HC.out]; omega)
              have hrow4 := hrow3.congr (g := fun i => if i < k + 1 then .int .i64 (Pk.tk m i : Nat) else .int .i64 0) (row_step HT.out)
              have HVP : Hid (((p : Int) + (j : Int)) = ((min (Pk.pos m (k + 1)) m : Nat) : Int)) := by
                show _ = _
                rw [Pk.pos_succ, ← HP.out, ← HT.out, Nat.min_eq_right (by omega)]; omega
              clear hlast hrow3
              go_wp2
              go_loopw [11, 19, 20] (fun vc vs vj w4 => ∃ i nq : Nat, i ≤ j + 1 ∧ vj = .int .i64 i ∧ vc = .int .i64 (p + i : Nat) ∧ vs = .int .i64 (j + Pk.sumTo (Pk.tk n) p i : Nat) ∧ w4 = wo.drewN nq) (fun _ _ vj _ => j + 1 - (intOf vj).toNat)
              case atStart => exact ⟨0, _, Nat.zero_le _, rfl, by simp, by simp [Pk.sumTo], rfl⟩
              case round =>
                obtain ⟨i, nq, hi, rfl, rfl, rfl, rfl⟩ := hrel
                have hsb := Pk.sumTo_le (Pk.tk n) 63 p i (fun x _ _ => Pk.tk_le n x)
                by_cases hij : i < j + 1
                · obtain ⟨x, hx⟩ : ∃ x, x = p + i := ⟨_, rfl⟩
                  rw [← hx]
                  obtain ⟨y, hy⟩ : ∃ y, y = j + Pk.sumTo (Pk.tk n) p i := ⟨_, rfl⟩
                  rw [← hy]
                  obtain ⟨s, hs⟩ : ∃ s, s = Pk.tk n x := ⟨_, rfl⟩
                  have hyb : y ≤ 1000000 := by omega
                  have hsb2 : s ≤ 63 := by rw [hs]; exact Pk.tk_le n x
                  have q1 : wo.cell? ⟨D + 1, i, none⟩ = some (.pointer (some ⟨w1.heap.size + 2 + 3 * x, 0, none⟩)) := by
                    rw [hbel3.cell (p := ⟨D + 1, i, none⟩) hkv, hkids.cell (by omega), if_pos hij, hx]
                  have q2 : wo.cell? ⟨w1.heap.size, x, none⟩ = some (.pointer (some ⟨w1.heap.size + 2 + 3 * x, 0, none⟩)) := by
                    rw [hbel3.cell (p := ⟨w1.heap.size, x, none⟩) (by show w1.heap.size < w3.heap.size; omega), hU.below.cell (p := ⟨w1.heap.size, x, none⟩) hk2l, hk2.cell (by omega)]
                  have q3 : ∀ z, (wo.drewN z).cell? ⟨w1.heap.size + 2 + 3 * x, 2, none⟩ = some (.int .i64 (s : Nat)) := fun z => by
                    show wo.cell? _ = _
                    have h0 := hs2 x (by omega)
                    have h1 : w1.heap.size + 2 + 3 * x < w2.heap.size := World.block_lt_of_cell? w2 _ h0
                    rw [hbel3.cell (p := ⟨w1.heap.size + 2 + 3 * x, 2, none⟩) (by show w1.heap.size + 2 + 3 * x < w3.heap.size; omega), hU.below.cell (p := ⟨w1.heap.size + 2 + 3 * x, 2, none⟩) h1, h0, hs]
                  have hpq := neq_same37 ⟨w1.heap.size + 2 + 3 * x, 0, none⟩
                  have hd : decide (((m : Int) + 1) ≤ (x : Int)) = false := decide_eq_false (by omega)
                  have hd' : decide (m + 1 ≤ x) = false := decide_eq_false (by omega)
                  have b3 : (x : Int) < (m : Int) + 1 := by omega
                  have b4 : (i : Int) < (j : Int) + 1 := by omega
                  have HG : Hid (j + Pk.sumTo (Pk.tk n) p (i + 1) = y + s) := by show _ = _; rw [hy, hs, hx]; simp only [Pk.sumTo]; omega
                  have HX2 : Hid (x = p + i) := hx
                  clear hx hy hs hbel3 hrow4
                  go_wp2
                  go_quiet (fail)
                  go_wp2_with (go_at_call 21; refine (nodeSize_any _ _ _ (q3 _)).mono ?_; rintro e w' ⟨rfl, rfl⟩)
                  go_roundw
                  case rel => exact ⟨i + 1, _, by omega, by go_num, by rw [← Nat.add_assoc, ← HX2.out]; go_num, by rw [HG.out]; go_num, rfl⟩
                  case measure => simp [intOf]; omega
                · have hij' : i = j + 1 := by omega
                  subst hij'
                  obtain ⟨x, hx⟩ : ∃ x, x = p + (j + 1) := ⟨_, rfl⟩
                  rw [← hx, ← HZ.out]
                  have hZb : Z ≤ 100000 := by have := HZ.out; omega
                  have q5 : (wo.drewN nq).cell? ⟨D, 2, none⟩ = some (.int .i64 (Z : Nat)) := by
                    show wo.cell? _ = _
                    rw [hbel3.cell (p := ⟨D, 2, none⟩) hlv]; exact l2
                  have HX2 : Hid (x = Pk.pos m (k + 1)) := by show _ = _; rw [hx, Pk.pos_succ, ← HP.out, ← HT.out]; omega
                  have HT2 : Hid (T + Z = Pk.ps m (k + 1) + Pk.sumTo (Pk.tk n) 0 (Pk.pos m (k + 1))) := by
                    show _ = _
                    rw [HTT.out, HZ.out, Pk.ps_succ, Pk.pos_succ, ← HP.out, ← HT.out, show p + j + 1 = p + (j + 1) by omega, Pk.sumTo_add (Pk.tk n) 0 p (j + 1), Nat.zero_add]
                    omega
                  clear hx
                  go_wp2_with (go_at_call 21; refine (nodeSize_any _ _ _ q5).mono ?_; rintro e w' ⟨rfl, rfl⟩)
                  go_roundw
                  case rel => exact ⟨k + 1, by omega, by go_num, by rw [← HVP.out], by rw [HX2.out], by rw [← HT2.out]; go_num, hrow4, below_drewAny hbel3 _⟩
                  case measure => simp [intOf]; omega
        · clear ht31
          go_wp2_with (first | (go_at_call 19; refine (nodeValues_any _ _ _ _ _ l0).mono ?_; rintro e w' ⟨rfl, rfl⟩) | (go_at_call 20; refine (nodeChildren_any _ _ _ _ _ l1).mono ?_; rintro e w' ⟨rfl, rfl⟩))
          obtain ⟨wo, hwo⟩ : ∃ wo : World, wo = wr.setCell ⟨w3.heap.size, k, none⟩ (.int .i64 (t : Nat)) := ⟨_, rfl⟩
          rw [← hwo]
          have hrow3 := (hrow.set k (.int .i64 (t : Nat)))
          have hbel3 := hbel.setCell (p := ⟨w3.heap.size, k, none⟩) (Nat.le_refl _) (.int .i64 (t : Nat))
          rw [← hwo] at hrow3 hbel3
          clear hwo cn l0 l1 cr fr hrow hbel
          go_loopw [18] (fun vj w4 => ∃ j nq : Nat, j ≤ t ∧ vj = .int .i64 j ∧ w4 = wo.drewN nq) (fun vj _ => t - (intOf vj).toNat)
          case atStart => exact ⟨0, 0, Nat.zero_le _, rfl, rfl⟩
          case round =>
            obtain ⟨j, nq, hj, rfl, rfl⟩ := hrel
            by_cases hjt : j < t
            · obtain ⟨x, hx⟩ : ∃ x, x = p + j := ⟨_, rfl⟩
              have hw : IntKind.i64.wrap ((p : Int) + (j : Int)) = (x : Int) := by rw [IntKind.wrap_i64]; omega
              have hd : decide ((m : Int) ≤ (x : Int)) = false := decide_eq_false (by omega)
              have hd' : decide (m ≤ x) = false := decide_eq_false (by omega)
              have he : x * 2 = p * 2 + j * 2 := by omega
              have b1 : (x : Int) < (m : Int) := by omega
              clear hx
              have b2 : (j : Int) < (t : Int) := by omega
              have hpq := neq_same41 ⟨w1.heap.size + 1, p * 2 + j * 2, none⟩
              clear hrow3 hbel3
              go_wp2
              go_quiet (fail)
              go_wp2
              go_roundw
              case rel => exact ⟨j + 1, _, by omega, by go_num, rfl⟩
              case measure => simp [intOf]; omega
            · have hjt' : j = t := by omega
              subst hjt'
              have hlast : p + j = m := by rw [HP.out, HT.out]; exact Pk.pos_last m k (by rw [← HC.out]; omega)
              have hrow4 := hrow3.congr (g := fun i => if i < k + 1 then .int .i64 (Pk.tk m i : Nat) else .int .i64 0) (row_step HT.out)
              have HVP : Hid (((p : Int) + (j : Int)) = ((min (Pk.pos m (k + 1)) m : Nat) : Int)) := by
                show _ = _
                rw [Pk.pos_succ, ← HP.out, ← HT.out, Nat.min_eq_right (by omega)]; omega
              clear hlast hrow3
              go_wp2
              go_loopw [11, 19, 20] (fun vc vs vj w4 => ∃ i nq : Nat, i ≤ j + 1 ∧ vj = .int .i64 i ∧ vc = .int .i64 (p + i : Nat) ∧ vs = .int .i64 (j + Pk.sumTo (Pk.tk n) p i : Nat) ∧ w4 = wo.drewN nq) (fun _ _ vj _ => j + 1 - (intOf vj).toNat)
              case atStart => exact ⟨0, _, Nat.zero_le _, rfl, by simp, by simp [Pk.sumTo], rfl⟩
              case round =>
                obtain ⟨i, nq, hi, rfl, rfl, rfl, rfl⟩ := hrel
                have hsb := Pk.sumTo_le (Pk.tk n) 63 p i (fun x _ _ => Pk.tk_le n x)
                by_cases hij : i < j + 1
                · obtain ⟨x, hx⟩ : ∃ x, x = p + i := ⟨_, rfl⟩
                  rw [← hx]
                  obtain ⟨y, hy⟩ : ∃ y, y = j + Pk.sumTo (Pk.tk n) p i := ⟨_, rfl⟩
                  rw [← hy]
                  obtain ⟨s, hs⟩ : ∃ s, s = Pk.tk n x := ⟨_, rfl⟩
                  have hyb : y ≤ 1000000 := by omega
                  have hsb2 : s ≤ 63 := by rw [hs]; exact Pk.tk_le n x
                  have q1 : wo.cell? ⟨D + 1, i, none⟩ = some (.pointer (some ⟨w1.heap.size + 2 + 3 * x, 0, none⟩)) := by
                    rw [hbel3.cell (p := ⟨D + 1, i, none⟩) hkv, hkids.cell (by omega), if_pos hij, hx]
                  have q2 : wo.cell? ⟨w1.heap.size, x, none⟩ = some (.pointer (some ⟨w1.heap.size + 2 + 3 * x, 0, none⟩)) := by
                    rw [hbel3.cell (p := ⟨w1.heap.size, x, none⟩) (by show w1.heap.size < w3.heap.size; omega), hU.below.cell (p := ⟨w1.heap.size, x, none⟩) hk2l, hk2.cell (by omega)]
                  have q3 : ∀ z, (wo.drewN z).cell? ⟨w1.heap.size + 2 + 3 * x, 2, none⟩ = some (.int .i64 (s : Nat)) := fun z => by
                    show wo.cell? _ = _
                    have h0 := hs2 x (by omega)
                    have h1 : w1.heap.size + 2 + 3 * x < w2.heap.size := World.block_lt_of_cell? w2 _ h0
                    rw [hbel3.cell (p := ⟨w1.heap.size + 2 + 3 * x, 2, none⟩) (by show w1.heap.size + 2 + 3 * x < w3.heap.size; omega), hU.below.cell (p := ⟨w1.heap.size + 2 + 3 * x, 2, none⟩) h1, h0, hs]
                  have hpq := neq_same37 ⟨w1.heap.size + 2 + 3 * x, 0, none⟩
                  have hd : decide (((m : Int) + 1) ≤ (x : Int)) = false := decide_eq_false (by omega)
                  have hd' : decide (m + 1 ≤ x) = false := decide_eq_false (by omega)
                  have b3 : (x : Int) < (m : Int) + 1 := by omega
                  have b4 : (i : Int) < (j : Int) + 1 := by omega
                  have HG : Hid (j + Pk.sumTo (Pk.tk n) p (i + 1) = y + s) := by show _ = _; rw [hy, hs, hx]; simp only [Pk.sumTo]; omega
                  have HX2 : Hid (x = p + i) := hx
                  clear hx hy hs hbel3 hrow4
                  go_wp2
                  go_quiet (fail)
                  go_wp2_with (go_at_call 21; refine (nodeSize_any _ _ _ (q3 _)).mono ?_; rintro e w' ⟨rfl, rfl⟩)
                  go_roundw
                  case rel => exact ⟨i + 1, _, by omega, by go_num, by rw [← Nat.add_assoc, ← HX2.out]; go_num, by rw [HG.out]; go_num, rfl⟩
                  case measure => simp [intOf]; omega
                · have hij' : i = j + 1 := by omega
                  subst hij'
                  obtain ⟨x, hx⟩ : ∃ x, x = p + (j + 1) := ⟨_, rfl⟩
                  rw [← hx, ← HZ.out]
                  have hZb : Z ≤ 100000 := by have := HZ.out; omega
                  have q5 : (wo.drewN nq).cell? ⟨D, 2, none⟩ = some (.int .i64 (Z : Nat)) := by
                    show wo.cell? _ = _
                    rw [hbel3.cell (p := ⟨D, 2, none⟩) hlv]; exact l2
                  have HX2 : Hid (x = Pk.pos m (k + 1)) := by show _ = _; rw [hx, Pk.pos_succ, ← HP.out, ← HT.out]; omega
                  have HT2 : Hid (T + Z = Pk.ps m (k + 1) + Pk.sumTo (Pk.tk n) 0 (Pk.pos m (k + 1))) := by
                    show _ = _
                    rw [HTT.out, HZ.out, Pk.ps_succ, Pk.pos_succ, ← HP.out, ← HT.out, show p + j + 1 = p + (j + 1) by omega, Pk.sumTo_add (Pk.tk n) 0 p (j + 1), Nat.zero_add]
                    omega
                  clear hx
                  go_wp2_with (go_at_call 21; refine (nodeSize_any _ _ _ q5).mono ?_; rintro e w' ⟨rfl, rfl⟩)
                  go_roundw
                  case rel => exact ⟨k + 1, by omega, by go_num, by rw [← HVP.out], by rw [HX2.out], by rw [← HT2.out]; go_num, hrow4, below_drewAny hbel3 _⟩
                  case measure => simp [intOf]; omega
    · have hkc : k = c := by omega
      subst hkc
      have HPE : Hid (min (Pk.pos m k) m = m) := by
        show min (Pk.pos m k) m = m
        rw [HC.out, Pk.pos_end]; omega
      have HPC : Hid (Pk.pos m k = m + 1) := by show _ = _; rw [HC.out, Pk.pos_end]
      have HTE : Hid (Pk.ps m k + Pk.sumTo (Pk.tk n) 0 (m + 1) + b = n) := by
        show _ = _
        have h1 := HMN.out
        have h2 := Pk.cnt_pos n
        have h3 := Pk.cnt_add m
        have h4 := HLV.out
        have h5 := HB.out
        rw [← HC.out] at h3
        rw [show m + 1 = Pk.cnt n by omega, Pk.sumTo_tk, Pk.ps_end, HC.out, Pk.ps_end]
        omega
      rw [HPE.out, HPC.out]
      have hsum : Hid ((m : Int) - (b : Int) = ((Pk.sumTo (Pk.tk m) 0 k : Nat) : Int)) := by
        show (m : Int) - (b : Int) = _
        rw [Pk.sumTo_tk, HC.out, Pk.ps_end]
        have := Pk.cnt_add m
        rw [← HC.out] at this
        have := HB.out
        omega
      obtain ⟨T, hT⟩ : ∃ T, T = Pk.ps m k + Pk.sumTo (Pk.tk n) 0 (m + 1) := ⟨_, rfl⟩
      rw [← hT]
      have hTn : (T : Int) + (b : Int) = (n : Int) := by have := HTE.out; omega
      have hTb : T ≤ 65536 := by have := HTE.out; omega
      clear hT
      have HE := evenShare_any w3.heap.size k k (Pk.tk m) wr (by omega) (by omega) (Pk.tk_le m) (Pk.tk_mono m) (Pk.tk_spread m _ _) (fun i hi => by rw [hrow.cell hi, if_pos hi])
      go_wp2_with fail
      rw [hsum.out]
      refine HE.mono ?_
      rintro e w' ⟨rfl, nq, rfl⟩
      clear HE
      go_wp2_with fail
      go_ret
      refine ⟨rfl, ((hb1.trans (hL.below.mono ?_)).trans (hU.below.mono ?_)).trans ((below_drewAny hbel nq).mono ?_)⟩
      all_goals
        have := hb1.size
        omega

end Go.Proofs.Qxb6600858a
