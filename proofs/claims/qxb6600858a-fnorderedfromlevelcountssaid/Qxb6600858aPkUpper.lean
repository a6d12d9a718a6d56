/-
  THE WALK of packLevel (31) over children.
-/
import Derived.Test.Qxb6600858aPkUppers
import Derived.Deep.RegionLaw
import Derived.Deep.DrawnRows
namespace Go.Proofs.Qxb6600858a
open Go.RowKit

attribute [local go_sem ↓] Go.wp_at_zero Go.wp_at_succ

set_option maxRecDepth 100000 in
set_option maxHeartbeats 4000000 in
theorem pack_upper (vb cb m : Nat) (S : Nat → ByteArray) (cp sz : Nat → Nat) (w : World) (hm : m ≤ 65536) (hv : w.rowIs vb 43 (m * 2) (vcell S))
    (hcb : w.rowIs cb 37 (m + 1) (fun i => .pointer (some ⟨cp i, 0, none⟩))) (hsz : ∀ i, i ≤ m → w.cell? ⟨cp i, 2, none⟩ = some (.int .i64 (sz i : Nat))) (hszb : ∀ i, sz i ≤ 65536) :
    Calls Try.prog 31 #[.slice (some ⟨vb, 0, none⟩) m m, .slice (some ⟨cb, 0, none⟩) (m + 1) (m + 1)] w fun e w' => 
      e = .returned (.tuple #[.slice (some ⟨w.heap.size, 0, none⟩) (Pk.cnt m) (Pk.cnt m), .slice (some ⟨w.heap.size + 1, 0, none⟩) (Pk.cnt m - 1) (Pk.cnt m - 1)]) ∧
      Uppers w vb m S cp sz (Pk.cnt m) w' := by
  obtain ⟨c, hc⟩ : ∃ c, c = Pk.cnt m := ⟨_, rfl⟩
  obtain ⟨b, hb⟩ : ∃ b, b = c - 1 := ⟨_, rfl⟩
  obtain ⟨h, hh⟩ : ∃ h, h = Pk.held m := ⟨_, rfl⟩
  have c1 := Pk.cnt_pos m
  have c2 := Pk.cnt_bound m hm
  have c3 := Pk.cnt_add m
  have hcq : 1 ≤ c := by omega
  have hcc : c ≤ 1025 := by omega
  have hbc : b < c := by omega
  have hbc' : c ≤ b + 1 := by omega
  have e1 : ((m : Int) + 63 + 1) / 64 = (c : Int) := by rw [hc]; unfold Pk.cnt; omega
  have e2 : (c : Int) - 1 = (b : Int) := by omega
  have e3 : (m : Int) - (b : Int) = (h : Int) := by omega
  have HC : Hid (c = Pk.cnt m) := hc
  have HB : Hid (b = c - 1) := hb
  have HH : Hid (h = Pk.held m) := hh
  have mk1 := make_ptrs c (by omega)
  have mk2 := make_vals0 b (by omega)
  have hh2 : h ≤ 65536 := by omega
  clear hc hb hh c1 c2 c3
  go_enter Try.func31, Try.ntmps31
  go_wp2
  rw [e1]
  clear e1 e3 mk1 mk2
  obtain ⟨q, hq⟩ : ∃ q, q = Pk.quo m := ⟨_, rfl⟩
  obtain ⟨r, hr⟩ : ∃ r, r = Pk.rem m := ⟨_, rfl⟩
  have e4 : (h : Int) / (c : Int) = (q : Int) := by rw [HH.out, HC.out, hq]; rfl
  have e5 : (h : Int) % (c : Int) = (r : Int) := by rw [HH.out, HC.out, hr]; rfl
  have HQ : Hid (q = Pk.quo m) := hq
  have HR : Hid (r = Pk.rem m) := hr
  have hq63 : q ≤ 63 := by rw [hq]; exact Pk.quo_le m
  clear hq hr
  go_loopw [0, 1, 8, 9, 31] (fun v0 v1 v8 v9 v31 wr => ∃ k : Nat, k ≤ c ∧ v31 = .int .i64 k ∧ v8 = .slice (some ⟨w.heap.size, 0, none⟩) k c ∧ v9 = .slice (some ⟨w.heap.size + 1, 0, none⟩) (min k b) b ∧
      (k < c → v0 = .slice (some ⟨vb, Pk.pos m k * 2, none⟩) (m - Pk.pos m k) (m - Pk.pos m k) ∧ v1 = .slice (some ⟨cb, Pk.pos m k, none⟩) (m + 1 - Pk.pos m k) (m + 1 - Pk.pos m k)) ∧ Uppers w vb m S cp sz k wr)
    (fun _ _ _ _ i _ => c - (intOf i).toNat)
  case atStart =>
    refine ⟨0, Nat.zero_le _, rfl, rfl, by simp, fun _ => by simp [Pk.pos_zero], ?_⟩
    have := uppers_start w vb m S cp sz
    rw [← HC.out, ← HB.out] at this
    exact this
  case round =>
    obtain ⟨k, hk, rfl, rfl, rfl, h0, hL⟩ := hrel
    by_cases hlt : k < c
    · have hmin : min k b = k := by omega
      obtain ⟨rfl, rfl⟩ := h0 hlt
      rw [hmin]
      obtain ⟨p, hp⟩ : ∃ p, p = Pk.pos m k := ⟨_, rfl⟩
      obtain ⟨t, ht⟩ : ∃ t, t = Pk.tk m k := ⟨_, rfl⟩
      have hpm : p + t ≤ m := by rw [hp, ht]; exact Pk.pos_in m k (by rw [← HC.out]; exact hlt)
      have ht63 : t ≤ 63 := by rw [ht]; exact Pk.tk_le m k
      have hsz0 := hL.size (by rw [← HC.out]; exact hlt)
      have hvb := hv.lt
      have hcbl := hcb.lt
      rw [← hp]
      have HP : Hid (p = Pk.pos m k) := hp
      have HT : Hid (t = Pk.tk m k) := ht
      clear hp hmin
      have e6 : (k < r ∧ (q : Int) + 1 = (t : Int)) ∨ (r ≤ k ∧ (q : Int) = (t : Int)) := by
        rw [ht, HQ.out]
        unfold Pk.tk
        by_cases hkr : k < r
        · exact .inl ⟨hkr, by rw [if_pos (by rw [← HR.out]; exact hkr)]; rfl⟩
        · exact .inr ⟨by omega, by rw [if_neg (by rw [← HR.out]; exact hkr)]; rfl⟩
      clear ht
      have hmk : ∀ w : World, (Instr.makeSlice 32 (.int .i64 0) (.int .i64 65)).run Try.prog w = .ok (.slice (some ⟨w.heap.size, 0, none⟩) 0 65) (w.alloc (.cells (nilPtrs 65) 37)) := fun w => make_ptrs 65 (by omega) w
      obtain ⟨N, hN⟩ : ∃ N, wr.heap.size = N := ⟨_, rfl⟩
      rw [hN] at hsz0
      have HZ : Hid (N = w.heap.size + 2 + 4 * k) := hsz0
      have g0 : w.heap.size < N := by omega
      have g1 : w.heap.size < N + 1 := by omega
      have g2 : w.heap.size + 1 < N := by omega
      have g3 : w.heap.size + 1 < N + 1 := by omega
      have g4 : vb < N := by omega
      have g5 : vb < N + 1 := by omega
      have g6 : cb < N := by omega
      have g7 : cb < N + 1 := by omega
      clear hsz0
      obtain ⟨u, hu⟩ : ∃ u, u = t + 1 := ⟨_, rfl⟩
      have hw : IntKind.i64.wrap ((t : Int) + 1) = (u : Int) := by rw [IntKind.wrap_i64]; omega
      have hw2 : IntKind.i64.wrap (u : Int) = (u : Int) := by rw [IntKind.wrap_i64]; omega
      have e7 : (t : Int) + 1 = (u : Int) := by omega
      have hu1 : p + u ≤ m + 1 := by omega
      have hu2 : u ≤ 64 := by omega
      have b1 : (u : Int) ≤ ((m + 1 - p : Nat) : Int) := by omega
      have HU : Hid (u = t + 1) := hu
      clear hu
      obtain ⟨i0, hi0, _, hz1, _⟩ := info_parts Try.info37
      have s1 : Hid ((kidsOf cp p u).length = u * 1) := by show _ = _; rw [kidsOf_length, Nat.mul_one]
      have s2 : Hid (∀ X Y, ∀ j v, (kidsOf cp p u)[j]? = some v → (((wr.alloc X).alloc Y).drew).cell? ((⟨cb, p, none⟩ : Addr).add j) = some v) := by
        intro X Y j v hj
        obtain ⟨hju, rfl⟩ := kidsOf_at cp p u j v hj
        rw [Addr.add_lit]
        show (((wr.alloc X).alloc Y)).cell? ⟨cb, p + j, none⟩ = _
        rw [World.cell?_alloc_past _ _ _ (by rw [nb_alloc, hN]; exact g7), World.cell?_alloc_past _ _ _ (by rw [hN]; exact g6), hL.below.cell (p := ⟨cb, p + j, none⟩) hcbl, hcb.cell (by omega)]
      have s3 : Hid (∀ v ∈ kidsOf cp p u, v.oneCell' = true) := kidsOf_one cp p u
      have s4 : Hid (∀ X, ∀ j, j < (kidsOf cp p u).length → ((((wr.alloc X).alloc (.cells (nilPtrs 65) 37)).drew).cell? ⟨N + 1, 0 + 0 * 1 + j, none⟩).isSome = true ∧ (((wr.alloc X).alloc (.cells (nilPtrs 65) 37)).drew).frozen? ⟨N + 1, 0 + 0 * 1 + j, none⟩ = false) := by
        intro X j hj
        rw [kidsOf_length] at hj
        have hr := World.rowIs_made (wr.alloc X) (.pointer none) 65 37
        rw [nb_alloc, hN] at hr
        have h1 := hr.drew.cell (i := 0 + 0 * 1 + j) (by omega)
        have h2 := hr.drew.frozen (0 + 0 * 1 + j)
        exact ⟨by show (World.cell? _ _).isSome = true; rw [nilPtrs, h1]; rfl, h2⟩
      have hM0 := Mid.start (vb := vb) (p := p) (t := t) (u := u) (cp := cp) (sz := sz) hN (by omega) hL.below (by omega)
      have s5 : (((((wr.alloc (.cells #[.slice (some ⟨vb, p * 2, none⟩) t t, .slice none 0 0, .int .i64 t] 63)).alloc (.cells (nilPtrs 65) 37)).drew).setCells (N + 1) 0 (kidsOf cp p u))).cell? ⟨N, 1, none⟩ = some (.slice none 0 0) := by
        rw [World.cell?_of_block (setCells_block _ _ _ _ _ (by show N ≠ N + 1; omega))]
        exact (((rowIs_new3 (f := nodeCell (.slice (some ⟨vb, p * 2, none⟩) t t) (.slice none 0 0) t) hN (by simp [nodeCell]) (by simp [nodeCell]) (by simp [nodeCell])).alloc (.cells (nilPtrs 65) 37)).drew).cell (i := 1) (by omega)
      have s6 : (((((wr.alloc (.cells #[.slice (some ⟨vb, p * 2, none⟩) t t, .slice none 0 0, .int .i64 t] 63)).alloc (.cells (nilPtrs 65) 37)).drew).setCells (N + 1) 0 (kidsOf cp p u))).frozen? ⟨N, 1, none⟩ = false := by
        rw [World.frozen?_of_block (setCells_block _ _ _ _ _ (by show N ≠ N + 1; omega))]
        exact (((rowIs_new3 (f := nodeCell (.slice (some ⟨vb, p * 2, none⟩) t t) (.slice none 0 0) t) hN (by simp [nodeCell]) (by simp [nodeCell]) (by simp [nodeCell])).alloc (.cells (nilPtrs 65) 37)).drew).frozen 1
      by_cases hkb : k < b
      · rcases e6 with ⟨hkr, e6⟩ | ⟨hkr, e6⟩
        all_goals
          go_wp2_with fail
          go_region_law (refine step_append_room rfl (.tmp 54) (.tmp 58) 32 rfl 37 i0 1 Try.underlying32 hi0 hz1 (N + 1) 0 0 65 (by simp [Act.eval]) ⟨cb, p, none⟩ u (m + 1 - p) (kidsOf cp p u) (by simp [Act.eval]) s1.out (by exact s2.out _ _) s3.out (by omega) (by exact s4.out _) ?_)
          obtain ⟨wo, hwo⟩ : ∃ wo : World, wo = (((((wr.alloc (.cells #[.slice (some ⟨vb, p * 2, none⟩) t t, .slice none 0 0, .int .i64 t] 63)).alloc (.cells (nilPtrs 65) 37)).drew).setCells (N + 1) 0 (kidsOf cp p u)).setCell ⟨N, 1, none⟩ (.slice (some ⟨N + 1, 0, none⟩) u 65)) := ⟨_, rfl⟩
          rw [← hwo] at hM0 ⊢
          clear hwo s1 s2 s3 s4 s5 s6 hmk hi0 hz1 hw hw2
          have hn1 : wo.cell? ⟨N, 1, none⟩ = some (.slice (some ⟨N + 1, 0, none⟩) u 65) := hM0.node.cell (i := 1) (by omega)
          go_wp2_with fail
          clear hn1
          obtain ⟨wh, rfl⟩ : ∃ wh : World, wh = wr := ⟨_, rfl⟩
          go_loopw [67] (fun vj w3 => ∃ j : Nat, j ≤ u ∧ vj = .int .i64 j ∧ Mid w wh vb p t u N cp sz j w3) (fun vj _ => u - (intOf vj).toNat)
          case atStart => exact ⟨0, Nat.zero_le _, rfl, hM0⟩
          case round =>
            clear hM0
            obtain ⟨j, hj, rfl, hM⟩ := hrel
            by_cases hju : j < u
            · obtain ⟨x, hx⟩ : ∃ x, x = t + Pk.sumTo sz p j := ⟨_, rfl⟩
              obtain ⟨y, hy⟩ : ∃ y, y = sz (p + j) := ⟨_, rfl⟩
              obtain ⟨d, hd⟩ : ∃ d, d = cp (p + j) := ⟨_, rfl⟩
              have hy1 : y ≤ 65536 := by rw [hy]; exact hszb _
              have hx1 : x ≤ 10000000 := by
                have := Pk.sumTo_le sz 65536 p j (fun i _ _ => hszb i)
                rw [hx]; omega
              obtain ⟨z, hz⟩ : ∃ z, z = x + y := ⟨_, rfl⟩
              have hsc := hsz (p + j) (by omega)
              rw [← hd, ← hy] at hsc
              have hdl : d < w.heap.size := World.block_lt_of_cell? w _ hsc
              have r1 : wr.cell? ⟨N + 1, j, none⟩ = some (.pointer (some ⟨d, 0, none⟩)) := by rw [hM.kids.cell (i := j) (by omega), if_pos hju, hd]
              have r2 : wr.cell? ⟨N, 2, none⟩ = some (.int .i64 (x : Nat)) := by rw [hM.node.cell (i := 2) (by omega), hx]; rfl
              have r3 : wr.cell? ⟨d, 2, none⟩ = some (.int .i64 (y : Nat)) := by rw [hM.below.cell (p := ⟨d, 2, none⟩) hdl]; exact hsc
              have r4 := hM.node.frozen 2
              have hw : IntKind.i64.wrap ((x : Int) + (y : Int)) = (z : Int) := by rw [IntKind.wrap_i64]; omega
              have hst := hM.step (x := z) (by omega) (by rw [hz, hx, hy])
              have b2 : (j : Int) < (u : Int) := by omega
              clear hx hy hd hz hsc hM
              go_wp2_with fail
              go_region
              all_goals go_wp2
              go_roundw
              case rel => exact ⟨j + 1, by omega, by go_num, hst.drew⟩
              case measure => simp [intOf]; omega
            · have hju' : j = u := by omega
              subst hju'
              have hs3 := hM.size
              have nod := hL.nodes.of_block (hM.block _ (by omega))
              have bet := hL.betw.of_block (hM.block _ (by omega))
              rw [← HC.out] at nod bet
              rw [← HB.out] at bet
              have cn := nod.cell hlt
              have fn := nod.frozen k
              rw [if_neg (Nat.lt_irrefl k)] at cn
              have g8 : w.heap.size < N + 2 := by omega
              have g9 : w.heap.size + 1 < N + 2 := by omega
              have g10 : vb < N + 2 := by omega
              have g11 : w.heap.size < N + 2 + 1 := by omega
              have g12 : w.heap.size + 1 < N + 2 + 1 := by omega
              have g13 : vb < N + 2 + 1 := by omega
              have g14 : ¬ vb = w.heap.size := by omega
              have g15 : ¬ vb = w.heap.size + 1 := by omega
              have cb0 := bet.cell (i := k * 2) (by omega)
              have cb1 := bet.cell (i := k * 2 + 1) (by omega)
              have fb0 := bet.frozen (k * 2)
              have fb1 := bet.frozen (k * 2 + 1)
              have hmore : p + t + 1 + 31 ≤ m := by rw [HP.out, HT.out]; exact Pk.pos_more m k (by rw [← HC.out]; omega)
              have hnu : ¬ m + 1 - p = j := by have := HU.out; omega
              have cv0 : wr.cell? ⟨vb, p * 2 + t * 2, none⟩ = some (.string (S (p + t))) := by
                rw [hM.below.cell (p := ⟨vb, p * 2 + t * 2, none⟩) hvb, hv.cell (by omega), ← Nat.add_mul, vcell_even]
              have cv1 : wr.cell? ⟨vb, p * 2 + t * 2 + 1, none⟩ = some (.int .i64 1) := by
                rw [hM.below.cell (p := ⟨vb, p * 2 + t * 2 + 1, none⟩) hvb, hv.cell (by omega), ← Nat.add_mul, vcell_odd]
              have HL := uppers_more hL hM (by rw [← HC.out]; omega) hN HP.out HT.out HU.out
              have HS : Hid (Pk.pos m (k + 1) = p + t + 1) := by show _ = _; rw [HP.out, HT.out]; exact Pk.pos_succ m k
              clear nod bet hL hM hsz hszb
              go_wp2_with fail
              go_roundw
              case rel =>
                refine ⟨k + 1, by omega, by go_num, rfl, ?_, fun h => ⟨?_, ?_⟩, HL⟩
                · rw [Nat.min_eq_left (by omega)]
                · rw [HS.out, show p * 2 + t * 2 + 2 = (p + t + 1) * 2 by omega, show m - p - t - 1 = m - (p + t + 1) by omega]
                · rw [HS.out, HU.out, show p + (t + 1) = p + t + 1 by omega, show m + 1 - p - (t + 1) = m + 1 - (p + t + 1) by omega]
              case measure => simp [intOf]; omega
      · rcases e6 with ⟨hkr, e6⟩ | ⟨hkr, e6⟩
        all_goals
          go_wp2_with fail
          go_region_law (refine step_append_room rfl (.tmp 54) (.tmp 58) 32 rfl 37 i0 1 Try.underlying32 hi0 hz1 (N + 1) 0 0 65 (by simp [Act.eval]) ⟨cb, p, none⟩ u (m + 1 - p) (kidsOf cp p u) (by simp [Act.eval]) s1.out (by exact s2.out _ _) s3.out (by omega) (by exact s4.out _) ?_)
          obtain ⟨wo, hwo⟩ : ∃ wo : World, wo = (((((wr.alloc (.cells #[.slice (some ⟨vb, p * 2, none⟩) t t, .slice none 0 0, .int .i64 t] 63)).alloc (.cells (nilPtrs 65) 37)).drew).setCells (N + 1) 0 (kidsOf cp p u)).setCell ⟨N, 1, none⟩ (.slice (some ⟨N + 1, 0, none⟩) u 65)) := ⟨_, rfl⟩
          rw [← hwo] at hM0 ⊢
          clear hwo s1 s2 s3 s4 s5 s6 hmk hi0 hz1 hw hw2
          have hn1 : wo.cell? ⟨N, 1, none⟩ = some (.slice (some ⟨N + 1, 0, none⟩) u 65) := hM0.node.cell (i := 1) (by omega)
          go_wp2_with fail
          clear hn1
          obtain ⟨wh, rfl⟩ : ∃ wh : World, wh = wr := ⟨_, rfl⟩
          go_loopw [67] (fun vj w3 => ∃ j : Nat, j ≤ u ∧ vj = .int .i64 j ∧ Mid w wh vb p t u N cp sz j w3) (fun vj _ => u - (intOf vj).toNat)
          case atStart => exact ⟨0, Nat.zero_le _, rfl, hM0⟩
          case round =>
            clear hM0
            obtain ⟨j, hj, rfl, hM⟩ := hrel
            by_cases hju : j < u
            · obtain ⟨x, hx⟩ : ∃ x, x = t + Pk.sumTo sz p j := ⟨_, rfl⟩
              obtain ⟨y, hy⟩ : ∃ y, y = sz (p + j) := ⟨_, rfl⟩
              obtain ⟨d, hd⟩ : ∃ d, d = cp (p + j) := ⟨_, rfl⟩
              have hy1 : y ≤ 65536 := by rw [hy]; exact hszb _
              have hx1 : x ≤ 10000000 := by
                have := Pk.sumTo_le sz 65536 p j (fun i _ _ => hszb i)
                rw [hx]; omega
              obtain ⟨z, hz⟩ : ∃ z, z = x + y := ⟨_, rfl⟩
              have hsc := hsz (p + j) (by omega)
              rw [← hd, ← hy] at hsc
              have hdl : d < w.heap.size := World.block_lt_of_cell? w _ hsc
              have r1 : wr.cell? ⟨N + 1, j, none⟩ = some (.pointer (some ⟨d, 0, none⟩)) := by rw [hM.kids.cell (i := j) (by omega), if_pos hju, hd]
              have r2 : wr.cell? ⟨N, 2, none⟩ = some (.int .i64 (x : Nat)) := by rw [hM.node.cell (i := 2) (by omega), hx]; rfl
              have r3 : wr.cell? ⟨d, 2, none⟩ = some (.int .i64 (y : Nat)) := by rw [hM.below.cell (p := ⟨d, 2, none⟩) hdl]; exact hsc
              have r4 := hM.node.frozen 2
              have hw : IntKind.i64.wrap ((x : Int) + (y : Int)) = (z : Int) := by rw [IntKind.wrap_i64]; omega
              have hst := hM.step (x := z) (by omega) (by rw [hz, hx, hy])
              have b2 : (j : Int) < (u : Int) := by omega
              clear hx hy hd hz hsc hM
              go_wp2_with fail
              go_region
              all_goals go_wp2
              go_roundw
              case rel => exact ⟨j + 1, by omega, by go_num, hst.drew⟩
              case measure => simp [intOf]; omega
            · have hju' : j = u := by omega
              subst hju'
              have hs3 := hM.size
              have nod := hL.nodes.of_block (hM.block _ (by omega))
              have bet := hL.betw.of_block (hM.block _ (by omega))
              rw [← HC.out] at nod bet
              rw [← HB.out] at bet
              have cn := nod.cell hlt
              have fn := nod.frozen k
              rw [if_neg (Nat.lt_irrefl k)] at cn
              have g8 : w.heap.size < N + 2 := by omega
              have g9 : w.heap.size + 1 < N + 2 := by omega
              have g10 : vb < N + 2 := by omega
              have g11 : w.heap.size < N + 2 + 1 := by omega
              have g12 : w.heap.size + 1 < N + 2 + 1 := by omega
              have g13 : vb < N + 2 + 1 := by omega
              have g14 : ¬ vb = w.heap.size := by omega
              have g15 : ¬ vb = w.heap.size + 1 := by omega
              have hlast : m ≤ p + t := by rw [HP.out, HT.out, Pk.pos_last m k (by rw [← HC.out]; omega)]; exact Nat.le_refl _
              have hnu : m + 1 ≤ p + j := by have := HU.out; omega
              have HL := uppers_last hL hM (by rw [← HC.out]; omega) hN HP.out HT.out HU.out
              clear nod bet hL hM hsz hszb
              go_wp2_with fail
              go_roundw
              case rel =>
                refine ⟨k + 1, by omega, by go_num, rfl, ?_, fun h => by omega, HL⟩
                rw [show min (k + 1) b = k by omega]
              case measure => simp [intOf]; omega
    · have hkc : k = c := by omega
      rw [hkc, show min c b = b by omega]
      rw [hkc, HC.out] at hL
      go_wp2_with fail
      go_ret2
      exact ⟨by rw [← HC.out, ← HB.out]; rfl, hL⟩

end Go.Proofs.Qxb6600858a
