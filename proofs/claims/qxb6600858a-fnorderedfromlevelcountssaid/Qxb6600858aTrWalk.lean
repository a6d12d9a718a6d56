/-
  THE WALK of zzWalkTree (27) at an inner node, and both together.
-/
import Derived.Test.Qxb6600858aTrWalkZ
import Derived.Test.Qxb6600858aTrLev
import Derived.Test.Qxb6600858aTrKids
import Derived.Deep.QuietTactic
import Derived.BigQuiet
import Derived.Test.Qxb6600858aPkSmall
import Derived.Test.Qxb6600858aPkEq
import Derived.Deep.RegionHeld3
import Derived.Deep.DrawnRows
import Derived.Deep.DeepCutAuto
import Derived.Deep.AppendLies
namespace Go.Proofs.Qxb6600858a
open Go.RowKit

attribute [local go_sem ↓] Go.wp_at_zero Go.wp_at_succ

set_option linter.unusedSimpArgs false in
set_option linter.unusedVariables false in
set_option maxRecDepth 100000 in
set_option maxHeartbeats 16000000 in
theorem walk_succ (w0 : World) (vb n : Nat) (S : Nat → ByteArray) (hn : n ≤ 65536) (hv : w0.rowIs vb 43 (n * 2) (vcell S)) (h : Nat) (hh0 : h ≠ 0) (REC : ∀ h', h' + 1 = h → WalkOk w0 vb n S h') : WalkOk w0 vb n S h := by
  intro D s t lo d fuel len F C ld w hT hdl hW hlen hld hf hf2 hd hbud
  obtain ⟨q, vk, vo, kl, kc, ka, hlo, hq63, hF0, m0, m1⟩ := hT.head
  have hDl : D < w0.heap.size := World.block_lt_of_cell? w0 _ m0
  have l0 : w.cell? ⟨D, 0, none⟩ = some (.slice (some ⟨vk, vo, none⟩) q q) := (hW.below.cell (p := ⟨D, 0, none⟩) hDl).trans m0
  have l1 : w.cell? ⟨D, 1, none⟩ = some (.slice ka kl kc) := (hW.below.cell (p := ⟨D, 1, none⟩) hDl).trans m1
  obtain ⟨hbel, ⟨lv, hst, ⟨xs, ow1, ow2, ow3⟩⟩, hem⟩ := hW
  obtain ⟨la, lc, rfl⟩ := own_form ow1
  have c4 : w.cell? ⟨w0.heap.size, 4, none⟩ = some (.slice la len lc) := hst.cell (i := 4) (by omega)
  have hWl := hst.lt
  go_enter Try.func27, Try.ntmps27
  go_upto_region 8 with (first | (go_at_call 19; refine (nodeValues_any _ _ _ _ _ l0).mono ?_; rintro e w' ⟨rfl, rfl⟩) | (go_at_call 20; refine (nodeChildren_any _ _ _ _ _ l1).mono ?_; rintro e w' ⟨rfl, rfl⟩))
  go_cut [46] (fun v wc => v = .bool false ∧ w = wc)
  case first =>
    clear_value *
    as_aux_lemma =>
      rcases Nat.eq_zero_or_pos d with h0 | h0
      · subst h0
        go_wp2_with fail
        go_meet
        case rel => exact ⟨rfl, rfl⟩
      · have hq31 : 31 ≤ q := Nat.le_trans (hdl h0) hlo
        go_wp2_with fail
        go_meet
        case rel => exact ⟨by simp; omega, rfl⟩
  case rest =>
    obtain ⟨rfl, rfl⟩ := hcut
    go_upto_if 56 with fail
    go_cut [] (fun wc => ∃ len', WS w0 vb n s ld len' C wc ∧ d < len' ∧ (len' = d + 1 ∨ len' = d + h + 1))
    case first =>
      clear_value *
      as_aux_lemma =>
        rcases hlen with rfl | rfl
        · have f4 := hst.frozen 4
          obtain ⟨i1, hi1, hy0, hy1, hy2⟩ := info_parts Try.info36
          have nb1 : (Value.slice la len lc).ownBlock ≠ some w0.heap.size := fun e => by
            have := (ow1.lt _ e).1
            omega
          go_wp2_with (at_builtin; refine wpList_append_lies _ (by rfl) (.tmp 61) (.tmp 62) 53 (by rfl) (w0.heap.size + 1) 36 i1 (.slice none 0 0) 1 24 Try.underlying53 hi1 hy0 hy1 hy2 (by rfl) (by omega) (.slice la len lc) len ((List.range len).map xs) (by rfl) (ow1.alloc _) ⟨w.heap.size, 0, none⟩ 1 1 [.slice none 0 0] (by rfl) (by rfl) (World.news_of_block (cs := #[.slice none 0 0]) (t := 36) (fr := (0, 0)) (heap_alloc_new w _)) ?n1 (by omega) ?n2 (by omega) ?n3 (w.heap.size + 1) ?n4 ?_)
          case n1 => intro u hu; simp at hu; subst hu; rfl
          case n2 => unfold maxLen; omega
          case n3 => rw [nb_alloc]; omega
          case n4 => exact nb_alloc _ _
          intro g cap w1 hown hgrow hat hlt
          have k1 : w1.cell? ⟨w0.heap.size, 4, none⟩ = some (.slice la len lc) := (hgrow.cell_far _ (by rw [nb_alloc]; show w0.heap.size < _; omega) (Ne.symm nb1)).trans ((World.cell?_alloc_past _ _ _ hWl).trans c4)
          have k2 : w1.frozen? ⟨w0.heap.size, 4, none⟩ = false := (hgrow.frozen_far _ (by rw [nb_alloc]; show w0.heap.size < _; omega) (Ne.symm nb1)).trans ((World.frozen?_alloc_past _ _ _ hWl).trans f4)
          have hR := ws_push hbel hst ow1 ow2 ow3 hem hown hgrow
          clear hown hgrow hat ow1 ow2 ow3 hem hst hbel
          go_wp2_with fail
          go_meet
          case rel => exact ⟨_, hR, by omega, .inl rfl⟩
        · have hne : ((d : Int) == ((d + h + 1 : Nat) : Int)) = false := by simp; omega
          go_wp2_with fail
          go_meet
          case rel => exact ⟨_, ⟨hbel, ⟨_, hst, xs, ow1, ow2, ow3⟩, hem⟩, by omega, .inr rfl⟩
    case rest =>
      obtain ⟨len', hW', hdlt, hlen'⟩ := hcut
      clear l0 l1 c4 hst ow1 ow2 ow3 hem hbel hlen hWl
      obtain ⟨hbel, ⟨lv, hst, ⟨ys, ow1, ow2, ow3⟩⟩, hem⟩ := hW'
      obtain ⟨g, cap, rfl, hgb, hgl⟩ := ow1.form (by omega)
      have c4 := hst.cell (i := 4) (by omega)
      simp only [stCell] at c4
      have oV := ow2 d hdlt
      obtain ⟨ao, cp, hV⟩ := own_form oV
      obtain ⟨L, hL⟩ : ∃ L, L = (C d).length := ⟨_, rfl⟩
      have hLb : L + 1 ≤ 1000001 := by have := hbud 0; simp only [Nat.add_zero] at this; omega
      have cg : wc.cell? ⟨g, d, none⟩ = some (.slice ao L cp) := by rw [ow1.cellAt d (by omega)]; simp [hV, hL, hdlt]
      have fg := ow1.frozenAt d
      have an1 : (Value.slice ao L cp).ownBlock ≠ some w0.heap.size := fun e => by
        rw [hL, ← hV] at e
        have := (oV.lt _ e).1
        omega
      have an2 : (Value.slice ao L cp).ownBlock ≠ some g := fun e => by
        rw [hL, ← hV] at e
        rcases own_ne oV ow1 (by decide) with h | h
        · rw [h] at e; cases e
        · exact h e
      have oV' : wc.ownsRow (w0.heap.size + 1) 3 1 (.slice ao L cp) L ((C d).map fun c => Value.int .i64 (c : Nat)) := by rw [hL, ← hV]; exact oV
      have lW := hst.lt
      have sX : ∀ X, ((wc.alloc X).drew).heap.size = wc.heap.size + 1 := fun X => nb_alloc wc X
      have bX : ∀ X, w0.heap.size + 1 ≤ ((wc.alloc X).drew).heap.size := fun X => by rw [sX]; omega
      have lX : ∀ X, w0.heap.size < ((wc.alloc X).drew).heap.size := fun X => by rw [sX]; omega
      have gX : ∀ X, g < ((wc.alloc X).drew).heap.size := fun X => by rw [sX]; omega
      have cgX : ∀ X, ((wc.alloc X).drew).cell? ⟨g, d, none⟩ = some (.slice ao L cp) := fun X => (World.cell?_alloc_past X g d hgl).trans cg
      have c4X : ∀ X, ((wc.alloc X).drew).cell? ⟨w0.heap.size, 4, none⟩ = some (.slice (some ⟨g, 0, none⟩) len' cap) := fun X => (World.cell?_alloc_past X _ _ lW).trans c4
      have fgX : ∀ X, ((wc.alloc X).drew).frozen? ⟨g, d, none⟩ = false := fun X => (World.frozen?_alloc_past X g d hgl).trans fg
      obtain ⟨i0, hi0, hz0, hz1, hz2⟩ := info_parts Try.info3'
      have HL : Hid (L = (C d).length) := hL
      have HV : Hid (ys d = .slice ao L cp) := by rw [hL]; exact hV
      have hdi : (d : Int) < (len' : Int) := by omega
      clear hV hL oV
      go_upto_region 13 with fail
      go_cut [] (fun wc => WS w0 vb n s ld len' (fun i => if i = d then C d ++ [q] else C i) wc)
      case first =>
        refine wp_region_noPanic ?_
        refine wp_region_held_drew (S := fun w' => w'.cell? ⟨w0.heap.size, 4, none⟩ = some (.slice (some ⟨g, 0, none⟩) len' cap)) (by kernel_rfl) ?_ (fun hHeld => ?_)
        · exact c4
        refine wpAnyH_take (i := 0) (v := ?_) rfl (by kernel_rfl) (by kernel_rfl) (by kernel_rfl) (fun _ _ _ h => h) (Or.inl ⟨by rfl, ?_⟩) (by assumption) ?_
        rotate_left
        · intro w hSw
          try dsimp only at hSw
          go_simp
          all_goals (with_reducible rfl)
        try simp only [Act.put, List.setIfInBounds_toArray, List.set_cons_zero, List.set_cons_succ]
        refine wpAnyH_take (i := 1) (v := ?_) rfl (by kernel_rfl) (by kernel_rfl) (by kernel_rfl) (fun _ _ _ h => h) (Or.inl ⟨by rfl, ?_⟩) (by assumption) ?_
        rotate_left
        · intro w hSw
          try dsimp only at hSw
          go_simp
          all_goals (with_reducible rfl)
        try simp only [Act.put, List.setIfInBounds_toArray, List.set_cons_zero, List.set_cons_succ]
        refine wpAnyH_take (i := 2) (v := ?_) rfl (by kernel_rfl) (by kernel_rfl) (by kernel_rfl) (fun _ _ _ h => h) (Or.inl ⟨by rfl, ?_⟩) (by assumption) ?_
        rotate_left
        · intro w hSw
          try dsimp only at hSw
          go_simp
          all_goals (with_reducible rfl)
        try simp only [Act.put, List.setIfInBounds_toArray, List.set_cons_zero, List.set_cons_succ]
        refine wpAnyH_take (i := 3) (v := ?_) rfl (by kernel_rfl) (by kernel_rfl) (by kernel_rfl) (fun _ _ _ h => h) (Or.inl ⟨by rfl, ?_⟩) (by assumption) ?_
        rotate_left
        · intro w hSw
          try dsimp only at hSw
          go_simp
          all_goals (with_reducible rfl)
        try simp only [Act.put, List.setIfInBounds_toArray, List.set_cons_zero, List.set_cons_succ]
        refine wpAnyH_take (i := 4) (v := ?_) rfl (by kernel_rfl) (by kernel_rfl) (by kernel_rfl) (fun _ _ _ h => h) (Or.inl ⟨by rfl, ?_⟩) (by assumption) ?_
        rotate_left
        · intro w hSw
          try dsimp only at hSw
          go_simp
          all_goals (with_reducible rfl)
        try simp only [Act.put, List.setIfInBounds_toArray, List.set_cons_zero, List.set_cons_succ]
        refine wpAnyH_take (i := 5) (v := ?_) rfl (by kernel_rfl) (by kernel_rfl) (by kernel_rfl) (fun _ _ _ h => h) (Or.inl ⟨by rfl, ?_⟩) (by assumption) ?_
        rotate_left
        · intro w hSw
          try dsimp only at hSw
          go_simp
          all_goals (with_reducible rfl)
        try simp only [Act.put, List.setIfInBounds_toArray, List.set_cons_zero, List.set_cons_succ]
        refine wpAnyH_take (i := 6) (v := ?_) rfl (by kernel_rfl) (by kernel_rfl) (by kernel_rfl) (fun _ _ _ h => h) (Or.inl ⟨by rfl, ?_⟩) (by assumption) ?_
        rotate_left
        · intro w hSw
          try dsimp only at hSw
          go_simp
          all_goals (with_reducible rfl)
        try simp only [Act.put, List.setIfInBounds_toArray, List.set_cons_zero, List.set_cons_succ]
        refine wpAnyH_take (i := 7) (v := ?_) rfl (by kernel_rfl) (by kernel_rfl) (by kernel_rfl) (fun _ _ _ h => h) (Or.inl ⟨by rfl, ?_⟩) (by assumption) ?_
        rotate_left
        · intro w hSw
          try dsimp only at hSw
          go_simp
          all_goals (with_reducible rfl)
        try simp only [Act.put, List.setIfInBounds_toArray, List.set_cons_zero, List.set_cons_succ]
        refine wpAnyH_take (i := 8) (v := ?_) rfl (by kernel_rfl) (by kernel_rfl) (by kernel_rfl) (fun _ _ _ h => h) (Or.inl ⟨by rfl, ?_⟩) (by assumption) ?_
        rotate_left
        · intro w hSw
          try dsimp only at hSw
          go_simp
          all_goals (with_reducible rfl)
        try simp only [Act.put, List.setIfInBounds_toArray, List.set_cons_zero, List.set_cons_succ]
        refine wpAnyH_take (i := 9) (v := ?_) rfl (by kernel_rfl) (by kernel_rfl) (by kernel_rfl) (fun _ _ _ h => h) (Or.inl ⟨by rfl, ?_⟩) (by assumption) ?_
        rotate_left
        · intro w hSw
          try dsimp only at hSw
          go_simp
          all_goals (with_reducible rfl)
        try simp only [Act.put, List.setIfInBounds_toArray, List.set_cons_zero, List.set_cons_succ]
        refine wpAnyH_take (i := 10) (v := ?_) rfl (by kernel_rfl) (by kernel_rfl) (by kernel_rfl) (fun _ _ _ h => h) (Or.inl ⟨by rfl, ?_⟩) (by assumption) ?_
        rotate_left
        · intro w hSw
          try dsimp only at hSw
          go_simp
          all_goals (with_reducible rfl)
        try simp only [Act.put, List.setIfInBounds_toArray, List.set_cons_zero, List.set_cons_succ]
        refine wpAnyH_take (i := 12) (v := ?_) rfl (by kernel_rfl) (by kernel_rfl) (by kernel_rfl) (fun _ _ _ h => h) (Or.inl ⟨by rfl, ?_⟩) (by assumption) ?_
        rotate_left
        · intro w hSw
          try dsimp only at hSw
          go_simp
          all_goals (with_reducible rfl)
        try simp only [Act.put, List.setIfInBounds_toArray, List.set_cons_zero, List.set_cons_succ]
        refine wpAnyH_take (i := 13) (v := ?_) rfl (by kernel_rfl) (by kernel_rfl) (by kernel_rfl) (fun _ _ _ h => h) (Or.inl ⟨by rfl, ?_⟩) (by assumption) ?_
        rotate_left
        · intro w hSw
          try dsimp only at hSw
          go_simp
          all_goals (with_reducible rfl)
        try simp only [Act.put, List.setIfInBounds_toArray, List.set_cons_zero, List.set_cons_succ]
        refine wpAnyH_ready (rs := [11, 14]) (by kernel_rfl) (by simp) ?_
        refine AllReadyH.cons rfl (fun K hK => ?_) (AllReadyH.cons rfl (fun K hK => ?_) AllReadyH.nil)
        · go_simp
          refine hK.out _ _ ?_ (fun hHeld => ?_)
          · exact c4
          try simp only [Act.put, List.setIfInBounds_toArray, List.set_cons_zero, List.set_cons_succ]
          refine wpAnyH_ready (rs := [14]) (by kernel_rfl) (by simp) ?_
          refine AllReadyH.cons rfl (fun K hK => ?_) AllReadyH.nil
          go_simp
          refine hK.out _ _ ?_ (fun hHeld => ?_)
          · exact c4X _
          try simp only [Act.put, List.setIfInBounds_toArray, List.set_cons_zero, List.set_cons_succ]
          refine wpAnyH_ready (rs := [15]) (by kernel_rfl) (by simp) ?_
          refine AllReadyH.cons rfl (fun K hK => ?_) AllReadyH.nil
          refine step_append_lies _ (by rfl) _ _ _ (by rfl) (w0.heap.size + 1) 3 i0 _ 1 8 Try.underlying36 hi0 hz0 hz1 hz2 rfl (by omega) (.slice ao L cp) L ((C d).map fun c => Value.int .i64 (c : Nat)) (by rfl) ((oV'.alloc _).drew) ⟨wc.heap.size, 0, none⟩ 1 1 [.int .i64 (q : Nat)] (by rfl) (by rfl) (World.news_of_block (cs := #[.int .i64 (q : Nat)]) (t := 3) (fr := (0, 0)) (heap_alloc_new wc _)) (by simp [Value.oneCell']) (by omega) (by unfold maxLen; omega) (by omega) (bX _) (wc.heap.size + 1) (sX _) ?_
          intro gg cap' w1 hown1 hgrow hat hlt
          have k1 : w1.cell? ⟨w0.heap.size, 4, none⟩ = some (.slice (some ⟨g, 0, none⟩) len' cap) := (hgrow.cell_far _ (lX _) (Ne.symm an1)).trans (c4X _)
          have k2 : w1.cell? ⟨g, d, none⟩ = some (.slice ao L cp) := (hgrow.cell_far _ (gX _) (Ne.symm an2)).trans (cgX _)
          have k3 : w1.frozen? ⟨g, d, none⟩ = false := (hgrow.frozen_far _ (gX _) (Ne.symm an2)).trans (fgX _)
          refine hK.out _ _ ?_ (fun hHeld => ?_)
          · exact k1
          try simp only [Act.put, List.setIfInBounds_toArray, List.set_cons_zero, List.set_cons_succ]
          refine wpAnyH_take (i := 16) (v := ?_) rfl (by kernel_rfl) (by kernel_rfl) (by kernel_rfl) (fun _ _ _ h => h) (Or.inl ⟨by rfl, ?_⟩) (by assumption) ?_
          rotate_left
          · intro w hSw
            try dsimp only at hSw
            go_simp
            all_goals (with_reducible rfl)
          try simp only [Act.put, List.setIfInBounds_toArray, List.set_cons_zero, List.set_cons_succ]
          refine wpAnyH_ready (rs := [17]) (by kernel_rfl) (by simp) ?_
          refine AllReadyH.cons rfl (fun K hK => ?_) AllReadyH.nil
          go_simp
          refine hK.out _ _ ?_ (fun hHeld => ?_)
          · exact (World.cell?_of_block (Below.heap_setCell _ _ _ _ (by show w0.heap.size ≠ g; omega))).trans k1
          try simp only [Act.put, List.setIfInBounds_toArray, List.set_cons_zero, List.set_cons_succ]
          refine wpAnyH_done (by kernel_rfl) ?_ _
          refine NoPanic.normal ?_
          rw [← HV.out] at hgrow hat
          rw [HL.out] at hown1
          have hR := ws_add hbel hst ow1 ow2 ow3 hem hdlt hown1 hgrow (hat.imp (fun h => h.symm) (fun h => by rw [h]; rfl)) rfl
          rw [HL.out]
          go_wp2_with fail
          go_meet
          case rel => exact hR
        · go_simp
          refine hK.out _ _ ?_ (fun hHeld => ?_)
          · exact c4X _
          try simp only [Act.put, List.setIfInBounds_toArray, List.set_cons_zero, List.set_cons_succ]
          refine wpAnyH_ready (rs := [11]) (by kernel_rfl) (by simp) ?_
          refine AllReadyH.cons rfl (fun K hK => ?_) AllReadyH.nil
          go_simp
          refine hK.out _ _ ?_ (fun hHeld => ?_)
          · exact c4X _
          try simp only [Act.put, List.setIfInBounds_toArray, List.set_cons_zero, List.set_cons_succ]
          refine wpAnyH_ready (rs := [15]) (by kernel_rfl) (by simp) ?_
          refine AllReadyH.cons rfl (fun K hK => ?_) AllReadyH.nil
          refine step_append_lies _ (by rfl) _ _ _ (by rfl) (w0.heap.size + 1) 3 i0 _ 1 8 Try.underlying36 hi0 hz0 hz1 hz2 rfl (by omega) (.slice ao L cp) L ((C d).map fun c => Value.int .i64 (c : Nat)) (by rfl) ((oV'.alloc _).drew) ⟨wc.heap.size, 0, none⟩ 1 1 [.int .i64 (q : Nat)] (by rfl) (by rfl) (World.news_of_block (cs := #[.int .i64 (q : Nat)]) (t := 3) (fr := (0, 0)) (heap_alloc_new wc _)) (by simp [Value.oneCell']) (by omega) (by unfold maxLen; omega) (by omega) (bX _) (wc.heap.size + 1) (sX _) ?_
          intro gg cap' w1 hown1 hgrow hat hlt
          have k1 : w1.cell? ⟨w0.heap.size, 4, none⟩ = some (.slice (some ⟨g, 0, none⟩) len' cap) := (hgrow.cell_far _ (lX _) (Ne.symm an1)).trans (c4X _)
          have k2 : w1.cell? ⟨g, d, none⟩ = some (.slice ao L cp) := (hgrow.cell_far _ (gX _) (Ne.symm an2)).trans (cgX _)
          have k3 : w1.frozen? ⟨g, d, none⟩ = false := (hgrow.frozen_far _ (gX _) (Ne.symm an2)).trans (fgX _)
          refine hK.out _ _ ?_ (fun hHeld => ?_)
          · exact k1
          try simp only [Act.put, List.setIfInBounds_toArray, List.set_cons_zero, List.set_cons_succ]
          refine wpAnyH_take (i := 16) (v := ?_) rfl (by kernel_rfl) (by kernel_rfl) (by kernel_rfl) (fun _ _ _ h => h) (Or.inl ⟨by rfl, ?_⟩) (by assumption) ?_
          rotate_left
          · intro w hSw
            try dsimp only at hSw
            go_simp
            all_goals (with_reducible rfl)
          try simp only [Act.put, List.setIfInBounds_toArray, List.set_cons_zero, List.set_cons_succ]
          refine wpAnyH_ready (rs := [17]) (by kernel_rfl) (by simp) ?_
          refine AllReadyH.cons rfl (fun K hK => ?_) AllReadyH.nil
          go_simp
          refine hK.out _ _ ?_ (fun hHeld => ?_)
          · exact (World.cell?_of_block (Below.heap_setCell _ _ _ _ (by show w0.heap.size ≠ g; omega))).trans k1
          try simp only [Act.put, List.setIfInBounds_toArray, List.set_cons_zero, List.set_cons_succ]
          refine wpAnyH_done (by kernel_rfl) ?_ _
          refine NoPanic.normal ?_
          rw [← HV.out] at hgrow hat
          rw [HL.out] at hown1
          have hR := ws_add hbel hst ow1 ow2 ow3 hem hdlt hown1 hgrow (hat.imp (fun h => h.symm) (fun h => by rw [h]; rfl)) rfl
          rw [HL.out]
          go_wp2_with fail
          go_meet
          case rel => exact hR
      case rest =>
        have hW := hcut
        clear hcut hst ow1 ow2 ow3 hem hbel sX bX lX gX cgX c4X fgX cg fg an1 an2 oV' lW HL HV hi0 hz0 hz1 hz2 hgb hgl c4
        cases h with
        | zero => exact absurd rfl hh0
        | succ h =>
          clear hh0
          obtain ⟨qq, K, bb, o, cpn, cut, Fs, _, _, htn, hcut0, hcutE, hnode, hkids, hvals, htrees, hF⟩ := hT
          have e0 := hnode.cell (i := 0) (by omega)
          have e1 := hnode.cell (i := 1) (by omega)
          have e2 := hnode.cell (i := 2) (by omega)
          rw [m0] at e0
          rw [m1] at e1
          simp only [nodeCell, if_true, Nat.one_ne_zero, if_false, Option.some.injEq, Value.slice.injEq, Addr.mk.injEq, and_true] at e0 e1
          obtain ⟨⟨hvk, hvo⟩, hqq, hqq'⟩ := e0
          clear hqq'
          obtain rfl := hvk.symm
          obtain rfl := hvo.symm
          subst hqq
          obtain ⟨rfl, rfl, rfl⟩ := e1
          obtain ⟨R, hR⟩ : ∃ R, R = t - s := ⟨_, rfl⟩
          have e2' : w0.cell? ⟨D, 2, none⟩ = some (.int .i64 (R : Nat)) := by rw [e2, hR]; rfl
          have hKl := hkids.lt
          have hcutm : ∀ j, j < q + 1 → cut j < cut (j + 1) := fun j hj => (htrees j (by omega)).1
          have hsum : ∀ j, j ≤ q + 1 → Pk.sumTo (fun i => cut (i + 1) - 1 - cut i) 0 j + j + s = cut j := fun j hj => by
            have := Tr.sum_cut (cut := cut) 0 j (fun i hi => by rw [Nat.zero_add]; exact hcutm i (by omega))
            rw [Nat.zero_add, hcut0] at this
            exact this
          have hcle : ∀ j, j ≤ q + 1 → cut j ≤ n + 1 := fun j hj => by
            have := Tr.cut_mono (cut := cut) (c := q + 1) hcutm hj (Nat.le_refl _)
            omega
          have HR1 : Hid (R = t - s) := hR
          have HRS : Hid (∀ j, j ≤ q + 1 → Pk.sumTo (fun i => cut (i + 1) - 1 - cut i) 0 j + j + s = cut j) := hsum
          have HCE : Hid (cut (q + 1) = t + 1) := hcutE
          have HC0 : Hid (cut 0 = s) := hcut0
          have HFF : Hid (F = fun x => if x = 0 then [q] else (List.range (q + 1)).flatMap (fun j => Fs j (x - 1))) := hF
          have HBU : Hid (∀ x, (C (d + x)).length + (F x).length ≤ 1000000) := hbud
          have HLD : Hid (ld = -1 ∨ ld = ((d + 1 + h : Nat) : Int)) := by
            rcases hld with h1 | h1
            · exact .inl h1
            · exact .inr (by rw [h1]; congr 1; omega)
          have HLN : Hid (len' = d + 1 ∨ len' = d + 1 + h + 1) := by
            rcases hlen' with h1 | h1
            · exact .inl h1
            · exact .inr (by omega)
          obtain ⟨d1, hd1⟩ : ∃ d1, d1 = d + 1 := ⟨_, rfl⟩
          obtain ⟨f1, hf1⟩ : ∃ f1, fuel = f1 + 1 := ⟨fuel - 1, by omega⟩
          have e8 : (d : Int) + 1 = (d1 : Int) := by omega
          have e9 : (fuel : Int) - 1 = (f1 : Int) := by omega
          have HD1 : Hid (d1 = d + 1) := hd1
          have hf3 : h < f1 := by omega
          have hf4 : f1 ≤ 64 := by omega
          have hRc := REC h rfl
          have HREC : Hid (WalkOk w0 vb n S h) := hRc
          have hd5 : d1 + h ≤ 64 := by omega
          have HVA : Hid (∀ j, j < q → w0.cell? ⟨bb, o * 2 + j * 2, none⟩ = some (.string (S (cut (j + 1) - 1))) ∧ w0.cell? ⟨bb, o * 2 + j * 2 + 1, none⟩ = some (.int .i64 1)) := hvals
          have HTR : Hid (∀ j, j ≤ q → cut j < cut (j + 1) ∧ Tree w0 vb n S h (cpn j) (cut j) (cut (j + 1) - 1) 31 (Fs j)) := htrees
          clear m0 m1 hnode e2 hlen' hdlt hdi hbud hR hsum hcutE hcut0 hF hld hd1 hf1 hRc REC hvals htrees hF0 HC0
          have hsn : ∀ wx : World, (binOp .eql 32 (.slice (some ⟨K, 0, none⟩) (q + 1) 65) (.slice none 0 0)).run Try.prog wx = .ok (.bool false) wx := fun wx => by
            rw [Lib.run_eql_slice_nil wx 32 37 (some ⟨K, 0, none⟩) (q + 1) 65 0 0 Try.underlying32]; rfl
          go_wp2_with fail
          clear hsn
          go_loopw [11, 13] (fun vz vj wr => ∃ (j kx lx : Nat) (ldx : Int) (Cx : Nat → List Nat), j ≤ q + 1 ∧ vj = .int .i64 j ∧ vz = .int .i64 (q + Pk.sumTo (fun i => cut (i + 1) - 1 - cut i) 0 j : Nat) ∧ WS w0 vb n kx ldx lx Cx wr ∧
              (j ≤ q → kx = cut j) ∧ (q < j → kx = t) ∧ (ldx = -1 ∨ ldx = ((d1 + h : Nat) : Int)) ∧ (0 < j → ldx = ((d1 + h : Nat) : Int)) ∧ (lx = d1 ∨ lx = d1 + h + 1) ∧ (0 < j → lx = d1 + h + 1) ∧ ∀ i, Cx i = Tr.CK C Fs d q j i)
            (fun _ vj _ => q + 1 - (intOf vj).toNat)
          case atStart =>
            refine ⟨0, s, len', ld, _, Nat.zero_le _, rfl, by simp [Pk.sumTo], hW, fun _ => ?_, fun h => by omega, ?_, fun h => by omega, ?_, fun h => by omega, fun i => (Tr.CK_zero C Fs d q i).symm⟩
            · have := HRS.out 0 (by omega); simp [Pk.sumTo] at this; exact this
            · rw [HD1.out]; exact HLD.out
            · rw [HD1.out]; exact HLN.out
          case round =>
            clear hW
            obtain ⟨j, kx, lx, ldx, Cx, hj, rfl, rfl, hW, hk1, hk2, hl1, hl2, hn1, hn2, hC⟩ := hrel
            have hzb : Pk.sumTo (fun i => cut (i + 1) - 1 - cut i) 0 j ≤ 65537 := by
              have h1 := HRS.out j hj
              have h2 := hcle j hj
              omega
            by_cases hjq : j < q + 1
            · clear_value *
              as_aux_lemma =>
                obtain ⟨hcj, hTj⟩ := HTR.out j (by omega)
                obtain ⟨Y, hY⟩ : ∃ Y, Y = cut (j + 1) - 1 - cut j := ⟨_, rfl⟩
                obtain ⟨Z, hZ⟩ : ∃ Z, Z = q + Pk.sumTo (fun i => cut (i + 1) - 1 - cut i) 0 j := ⟨_, rfl⟩
                obtain ⟨k2, hk2'⟩ : ∃ k2, k2 = cut (j + 1) - 1 := ⟨_, rfl⟩
                have hkx := hk1 (by omega)
                rw [hkx] at hW
                have HCALL := HREC.out (cpn j) (cut j) k2 31 d1 f1 lx (Fs j) Cx ldx wr (by rw [hk2']; exact hTj) (fun _ => Nat.le_refl _) hW hn1 hl1 hf3 hf4 hd5 (fun x => by
                  have h1 := Tr.CK_budget HFF.out HBU.out (show j ≤ q by omega) x
                  rw [hC, HD1.out]; exact h1)
                rw [show k2 - cut j = Y by rw [hY, hk2']] at HCALL
                have hck : wr.cell? ⟨K, j, none⟩ = some (.pointer (some ⟨cpn j, 0, none⟩)) := by
                  rw [hW.below.cell (p := ⟨K, j, none⟩) hKl, hkids.cell (by omega), if_pos hjq]
                have hle2 := hcle (j + 1) (by omega)
                have hYb : Y ≤ 65537 := by omega
                have hZb : Z ≤ 70000 := by omega
                have hkb : k2 ≤ 65537 := by omega
                rw [← hZ]
                have HZZ : Hid (Z + Y = q + Pk.sumTo (fun i => cut (i + 1) - 1 - cut i) 0 (j + 1)) := by
                  show _ = _
                  rw [hZ, hY]; simp only [Pk.sumTo, Nat.zero_add]; omega
                have b2 : (j : Int) < (q : Int) + 1 := by omega
                have HK2 : Hid (k2 = cut (j + 1) - 1) := hk2'
                have HCX : Hid (∀ i, Cx i = Tr.CK C Fs d q j i) := hC
                have hcj2 : 1 ≤ cut (j + 1) := by omega
                clear hY hZ hkx hk1 hk2 hl1 hl2 hn1 hn2 hC hk2' hW hTj
                by_cases hjq2 : j < q
                · obtain ⟨v0, v1⟩ := HVA.out j hjq2
                  have hbl : bb < w0.heap.size := World.block_lt_of_cell? w0 _ v0
                  have hcm2 := hcutm (j + 1) (by omega)
                  have hcl3 := hcle (j + 1 + 1) (by omega)
                  have hkn : k2 < n := by have := HK2.out; omega
                  rw [← HK2.out] at v0
                  have hvbl := hv.lt
                  have hd1' : decide ((n : Int) ≤ (k2 : Int)) = false := decide_eq_false (by omega)
                  have hd2' : decide (n ≤ k2) = false := decide_eq_false (by omega)
                  have b3 : (k2 : Int) < (n : Int) := by omega
                  have b4 : (j : Int) < (q : Int) := by omega
                  clear hcle hcutm hcm2 hcl3 hle2
                  go_wp2_with fail
                  refine HCALL.mono ?_
                  rintro e w2 ⟨rfl, hW⟩
                  clear HCALL hck
                  have c0 := hW.c0
                  have c1 := hW.c1
                  have f1' := hW.fz 1
                  have u0 : w2.cell? ⟨bb, o * 2 + j * 2, none⟩ = some (.string (S k2)) := (hW.below.cell (p := ⟨bb, o * 2 + j * 2, none⟩) hbl).trans v0
                  have u1 : w2.cell? ⟨bb, o * 2 + j * 2 + 1, none⟩ = some (.int .i64 1) := (hW.below.cell (p := ⟨bb, o * 2 + j * 2 + 1, none⟩) hbl).trans v1
                  have u2 : w2.cell? ⟨vb, k2 * 2, none⟩ = some (.string (S k2)) := by rw [hW.below.cell (p := ⟨vb, k2 * 2, none⟩) hvbl, hv.cell (by omega), vcell_even]
                  have u3 : w2.cell? ⟨vb, k2 * 2 + 1, none⟩ = some (.int .i64 1) := by rw [hW.below.cell (p := ⟨vb, k2 * 2 + 1, none⟩) hvbl, hv.cell (by omega), vcell_odd]
                  obtain ⟨k3, hk3⟩ : ∃ k3, k3 = k2 + 1 := ⟨_, rfl⟩
                  have e10 : (k2 : Int) + 1 = (k3 : Int) := by omega
                  have HK3 : Hid (k3 = k2 + 1) := hk3
                  clear hk3 v0 v1
                  go_wp2_with fail
                  go_quiet (fail)
                  go_wp2_with fail
                  go_roundw
                  case rel =>
                    have h3 := HK3.out
                    have h2 := HK2.out
                    refine ⟨j + 1, k3, _, _, _, by omega, by go_num, by rw [← HZZ.out]; go_num, (hW.drewAny _).setK k3, fun _ => by omega, fun h => by omega, .inr rfl, fun _ => rfl, .inr rfl, fun _ => rfl, fun i => ?_⟩
                    rw [Tr.CK_succ, HCX.out i, HD1.out]
                  case measure => simp [intOf]; omega
                · have hjq3 : j = q := by omega
                  have hkt : k2 = t := by have h1 := HK2.out; rw [hjq3, HCE.out] at h1; omega
                  have HKT : Hid (k2 = t) := hkt
                  clear hcle hcutm hkt
                  have HJ : Hid (j = q) := hjq3
                  clear hjq3
                  go_wp2_with fail
                  refine HCALL.mono ?_
                  rintro e w2 ⟨rfl, hW⟩
                  clear HCALL hck
                  go_wp2_with fail
                  go_roundw
                  case rel =>
                    have h3 := HJ.out
                    refine ⟨j + 1, k2, _, _, _, by omega, by go_num, by rw [← HZZ.out]; go_num, hW, fun h => by omega, fun _ => HKT.out, .inr rfl, fun _ => rfl, .inr rfl, fun _ => rfl, fun i => ?_⟩
                    rw [Tr.CK_succ, HCX.out i, HD1.out]
                  case measure => simp [intOf]; omega
            · have hje : j = q + 1 := by omega
              have hs1 := HRS.out j hj
              have hkt := hk2 (by omega)
              have hle := hl2 (by omega)
              have hne := hn2 (by omega)
              have hce := HCE.out
              rw [← hje] at hce
              have hr := HR1.out
              have hZR : q + Pk.sumTo (fun i => cut (i + 1) - 1 - cut i) 0 j = R := by omega
              rw [hZR]
              have l2 : wr.cell? ⟨D, 2, none⟩ = some (.int .i64 (R : Nat)) := (hW.below.cell (p := ⟨D, 2, none⟩) hDl).trans e2'
              have HD2 := HD1.out
              have hWf : WS w0 vb n t (((d + (h + 1) : Nat)) : Int) (d + (h + 1) + 1) (fun i => C i ++ (if d ≤ i then F (i - d) else [])) wr := by
                refine hW.congr hkt (by rw [hle]; congr 1; omega) (by omega) (fun i => ?_)
                rw [hC, hje]; exact Tr.CK_end C Fs d q i HFF.out
              clear hs1 hkt hle hne hce hr hZR hk1 hk2 hl1 hl2 hn1 hn2 hC hcle hcutm hje hW HD2 e8 e9 HFF HBU
              go_wp2_with (go_at_call 21; refine (nodeSize_any _ _ _ l2).mono ?_; rintro e w' ⟨rfl, rfl⟩)
              go_ret
              exact ⟨by rw [← HR1.out]; rfl, hWf⟩

theorem walk_step (w0 : World) (vb n : Nat) (S : Nat → ByteArray) (hn : n ≤ 65536) (hv : w0.rowIs vb 43 (n * 2) (vcell S)) (h : Nat) (REC : ∀ h', h' + 1 = h → WalkOk w0 vb n S h') : WalkOk w0 vb n S h := by
  by_cases hh : h = 0
  · exact walk_zero w0 vb n S hn hv h hh
  · exact walk_succ w0 vb n S hn hv h hh REC

end Go.Proofs.Qxb6600858a
