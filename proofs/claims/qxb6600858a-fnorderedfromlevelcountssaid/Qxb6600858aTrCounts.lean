/-
  THE WALK of FnOrderedFromLevelCounts (8).
-/
import Derived.Test.Qxb6600858aTrBTree
namespace Go.Proofs.Qxb6600858a
open Go.RowKit

/-- A level's row in the walk's state. -/
theorem WS.level {w0 : World} {vb n k : Nat} {ld : Int} {len : Nat} {C : Nat → List Nat} {w : World} (h : WS w0 vb n k ld len C w) (d c m : Nat) (hd : d < len) (hc : 1 ≤ c) (hC : C d = Tr.counts m) (hcm : c = Pk.cnt m) :
    ∃ (g cap g2 cap2 : Nat), w.cell? ⟨w0.heap.size, 4, none⟩ = some (.slice (some ⟨g, 0, none⟩) len cap) ∧ w.cell? ⟨g, d, none⟩ = some (.slice (some ⟨g2, 0, none⟩) c cap2) ∧
      ∀ i, i < c → w.cell? ⟨g2, i, none⟩ = some (.int .i64 (Pk.tk m i : Nat)) := by
  obtain ⟨hbel, ⟨lv, hst, ⟨ys, ow1, ow2, ow3⟩⟩, hem⟩ := h
  obtain ⟨g, cap, rfl, hgb, hgl⟩ := ow1.form (by omega)
  have c4 := hst.cell (i := 4) (by omega)
  simp only [stCell] at c4
  have oV := ow2 d hd
  rw [hC, Tr.counts_length, ← hcm] at oV
  obtain ⟨g2, cap2, hV, _, _⟩ := oV.form (by omega)
  refine ⟨g, cap, g2, cap2, c4, ?_, fun i hi => ?_⟩
  · rw [ow1.cellAt d (by omega)]; simp [hV, hd]
  · rw [hV] at oV
    rw [oV.cellAt i (by omega)]
    simp [Tr.counts, ← hcm, hi]

set_option maxRecDepth 100000 in
set_option maxHeartbeats 800000 in
theorem counts_walk (ty : Int) (n : Nat) (hn : n ≤ 65536) (hn1 : 1 ≤ n) (w : World) :
    Calls Try.prog 8 #[.int .u8 ty, .int .i64 n] w fun e w' => e = .returned (.bool true) ∧ Below w.heap.size w w' := by
  have HD := distinct_any n hn w
  have hn0 : ((n : Int) == 0) = false := by simp; omega
  go_enter Try.func8, Try.ntmps8
  go_wp2_with fail
  refine HD.mono ?_
  rintro e w1 ⟨S, rfl, hv, hb1⟩
  have HO := zzOrderedFrom_any ty w.heap.size n S w1 hn hn1 hv
  clear HD
  go_wp2_with fail
  refine HO.mono ?_
  rintro e w2 ⟨h, D, F, rfl, hT, hF, hmore, hc1, hb2⟩
  clear HO
  have hty := orderedType_any w2.heap.size ty (w2.alloc (.cells #[.int .u8 ty, .pointer (some ⟨D, 0, none⟩)] 47)) (by simp)
  go_wp2_with fail
  refine hty.mono ?_
  rintro e w' ⟨rfl, rfl⟩
  clear hty
  obtain ⟨w0, hw0⟩ : ∃ w0 : World, w0 = w2.alloc (.cells #[.int .u8 ty, .pointer (some ⟨D, 0, none⟩)] 47) := ⟨_, rfl⟩
  rw [← hw0]
  have hT0 : Tree w0 w.heap.size n S h D 0 n 0 F := by rw [hw0]; exact hT.mono (fun k hk => Below.heap_alloc _ _ _ hk)
  have hv0 : w0.rowIs w.heap.size 43 (n * 2) (vcell S) := by rw [hw0]; exact (hv.of_block (hb2.block _ hv.lt)).alloc _
  have hs0 : w0.heap.size = w2.heap.size + 1 := by rw [hw0]; exact nb_alloc _ _
  have hO : w0.cell? ⟨w2.heap.size, 1, none⟩ = some (.pointer (some ⟨D, 0, none⟩)) := by rw [hw0]; simp
  have hB0 : Below w.heap.size w w0 := by
    rw [hw0]
    exact (hb1.trans (hb2.mono hb1.size)).alloc (by have := hb1.size; have := hb2.size; omega) _
  have hh2 := Tr.height_le hn hmore
  have hmm : ∀ g, Tr.mm n g ≤ 65536 := fun g => by
    induction g with
    | zero => exact hn
    | succ g ih => have := Pk.cnt_bound _ ih; show Pk.cnt (Tr.mm n g) - 1 ≤ 65536; omega
  have hbud : ∀ x, ((fun _ => []) (0 + x) : List Nat).length + (F x).length ≤ 1000000 := fun x => by
    by_cases hx : x ≤ h
    · rw [hF x hx, Tr.counts_length]
      have := Pk.cnt_bound _ (hmm (h - x))
      simp; omega
    · rw [hT.deep x (by omega)]; simp
  have HW := walk_all w0 w.heap.size n S hn hv0 h D 0 n 0 0 64 0 F (fun _ => []) (-1) _ hT0 (fun h => by omega) (ws_start w0 w.heap.size n) (.inl rfl) (.inl rfl) (by omega) (by omega) (by omega) hbud
  rw [hs0] at HW
  have hsz := hT0.size
  have HL := orderedLen_any w2.heap.size D _ w0 hO hsz
  have hrt := orderedRoot_any w2.heap.size (some ⟨D, 0, none⟩) w0 hO
  clear hw0 hT hT0 hv hv0 hb1 hb2 hsz
  go_wp2_with fail
  refine HL.mono ?_
  rintro e w' ⟨rfl, rfl⟩
  clear HL
  rw [show n - 0 = n by omega]
  go_wp2_with fail
  refine hrt.mono ?_
  rintro e w' ⟨rfl, rfl⟩
  clear hrt
  go_wp2_with fail
  refine HW.mono ?_
  rintro e w3 ⟨rfl, hWS0⟩
  clear HW
  have hWS : WS w0 w.heap.size n n (h : Nat) (h + 1) F w3 := hWS0.congr rfl (by simp) (by omega) (fun i => by simp)
  clear hWS0
  go_wp2_with fail
  clear hbud hn0 hO
  go_loopw [9, 10] (fun vm vh wr => ∃ g : Nat, g ≤ h ∧ vm = .int .i64 (Tr.mm n g : Nat) ∧ vh = .int .i64 g ∧ WS w0 w.heap.size n n (h : Nat) (h + 1) F wr) (fun _ vh _ => h + 1 - (intOf vh).toNat)
  case atStart => exact ⟨0, Nat.zero_le _, rfl, rfl, hWS⟩
  case round =>
    clear hWS
    obtain ⟨g, hg, rfl, rfl, hWS⟩ := hrel
    have hMb := hmm g
    have hnext : Tr.mm n (g + 1) = Pk.cnt (Tr.mm n g) - 1 := rfl
    have hmo := hmore g
    have hla : g = h → Pk.cnt (Tr.mm n g) = 1 := fun e => by rw [e]; exact hc1
    have hFd : F (h - g) = Tr.counts (Tr.mm n g) := by rw [hF (h - g) (by omega), show h - (h - g) = g by omega]
    obtain ⟨M, hM⟩ : ∃ M, M = Tr.mm n g := ⟨_, rfl⟩
    rw [← hM] at hMb hnext hmo hla hFd ⊢
    have hcp := Pk.cnt_pos M
    have hcb := Pk.cnt_bound M hMb
    have hadd := Pk.cnt_add M
    have hend := Pk.ps_end M
    have HLN := leastNodes_any M wr hMb
    obtain ⟨k, hk⟩ : ∃ k, k = Pk.cnt M := ⟨_, rfl⟩
    rw [← hk] at hnext hmo hla hcp hcb hadd hend HLN
    obtain ⟨d, hd⟩ : ∃ d, d = h - g := ⟨_, rfl⟩
    rw [← hd] at hFd
    obtain ⟨r, cap, r2, cap2, k1, k2, k3⟩ := hWS.level d k M (by omega) hcp hFd hk
    rw [hs0] at k1
    obtain ⟨L, hL⟩ : ∃ L, L = h + 1 := ⟨_, rfl⟩
    rw [← hL] at k1
    have e1 : (L : Int) - 1 - (g : Int) = (d : Int) := by omega
    have b1 : (d : Int) < (L : Int) := by omega
    have b2 : d < L := by omega
    have b3 : ¬ ((d : Int) < 0) := by omega
    have hLb : L ≤ 3 := by omega
    have hL1 : 1 ≤ L := by omega
    have hgL : g < L := by omega
    have hsum : Hid ((M : Int) - ((k : Int) - 1) = ((Pk.sumTo (Pk.tk M) 0 k : Nat) : Int)) := by
      show _ = _
      rw [Pk.sumTo_tk, hend]
      omega
    have HE := evenShare_any r2 k cap2 (Pk.tk M) wr hcp (by omega) (Pk.tk_le M) (Pk.tk_mono M) (Pk.tk_spread M _ _) k3
    have HN : Hid (Tr.mm n (g + 1) = k - 1) := hnext
    have HGH : Hid (k = 1 → L = g + 1) := fun e => by
      by_cases hgh : g < h
      · have := hmo hgh; omega
      · omega
    have HGL : Hid (k ≠ 1 → g + 1 ≤ h) := fun e => by
      by_cases hgh : g = h
      · exact absurd (hla hgh) e
      · omega
    have hg2 : g ≤ 2 := by omega
    have HLh : Hid (L = h + 1) := hL
    clear hF hmore hc1 hh2 hmm hFd hM hk hd hnext hmo hla hadd hend k3 hL
    by_cases hk1 : k = 1
    · have hLg := HGH.out hk1
      have e2 : ((g : Int) + 1 == (L : Int)) = true := by simp; omega
      have hB : Below w.heap.size w wr := hB0.trans (hWS.below.mono (by have := hB0.size; omega))
      have HE1 : Calls Try.prog 22 #[.slice (some ⟨r2, 0, none⟩) 1 cap2, .int .i64 (M : Nat)] wr fun e w' => e = .returned (.bool true) ∧ ∃ nq, w' = wr.drewN nq := by
        have e3 : ((Pk.sumTo (Pk.tk M) 0 k : Nat) : Int) = (M : Nat) := by rw [← hsum.out]; omega
        rw [e3] at HE
        subst hk1
        exact HE
      clear HE
      subst hk1
      clear hLg HGH HGL
      go_wp2_with fail
      refine HLN.mono ?_
      rintro e w' ⟨rfl, rfl⟩
      go_wp2_with fail
      refine HE1.mono ?_
      rintro e w' ⟨rfl, nq, rfl⟩
      clear HE1 HLN
      go_wp2_with fail
      go_ret
      exact ⟨rfl, ⟨hB.os, hB.tape, hB.output, hB.size, hB.block⟩⟩
    · have e3 : ((k : Int) == 1) = false := by simp; omega
      rw [← hsum.out] at HE
      have hk2 := HGL.out hk1
      clear HGH HGL
      go_wp2_with fail
      refine HLN.mono ?_
      rintro e w' ⟨rfl, rfl⟩
      go_wp2_with fail
      refine HE.mono ?_
      rintro e w' ⟨rfl, nq, rfl⟩
      clear HE HLN
      go_wp2_with fail
      go_roundw
      case rel => exact ⟨g + 1, hk2, by rw [HN.out]; go_num, by go_num, hWS.drewAny nq⟩
      case measure => simp [intOf]; omega


set_option maxRecDepth 100000 in
theorem counts_zero (ty : Int) (w : World) :
    Calls Try.prog 8 #[.int .u8 ty, .int .i64 0] w fun e w' => e = .returned (.bool true) ∧ Below w.heap.size w w' := by
  have HD := distinct_any 0 (by omega) w
  go_enter Try.func8, Try.ntmps8
  go_wp2_with fail
  refine HD.mono ?_
  rintro e w1 ⟨S, rfl, hv, hb1⟩
  have HO := zzOrderedFrom_zero ty (some ⟨w.heap.size, 0, none⟩) 0 w1
  clear HD
  go_wp2_with fail
  refine HO.mono ?_
  rintro e w2 ⟨rfl, hb2⟩
  clear HO
  have hty := orderedType_any w2.heap.size ty (w2.alloc (.cells #[.int .u8 ty, .pointer none] 47)) (by simp)
  have hln := orderedLen_zero w2.heap.size (w2.alloc (.cells #[.int .u8 ty, .pointer none] 47)) (by simp)
  have hrt := orderedRoot_any w2.heap.size none (w2.alloc (.cells #[.int .u8 ty, .pointer none] 47)) (by simp)
  have hB : Below w.heap.size w (w2.alloc (.cells #[.int .u8 ty, .pointer none] 47)) := (hb1.trans (hb2.mono hb1.size)).alloc (by have := hb1.size; have := hb2.size; omega) _
  go_wp2_with fail
  refine hty.mono ?_
  rintro e w' ⟨rfl, rfl⟩
  go_wp2_with fail
  refine hln.mono ?_
  rintro e w' ⟨rfl, rfl⟩
  go_wp2_with fail
  refine hrt.mono ?_
  rintro e w' ⟨rfl, rfl⟩
  go_wp2_with fail
  go_ret
  exact ⟨rfl, hB⟩

end Go.Proofs.Qxb6600858a
