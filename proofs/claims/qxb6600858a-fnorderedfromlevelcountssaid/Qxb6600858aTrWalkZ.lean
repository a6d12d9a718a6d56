/-
  THE WALK of zzWalkTree (27).
-/
import Derived.Test.Qxb6600858aTrLev
import Derived.Test.Qxb6600858aTrKids
import Derived.Deep.QuietTactic
import Derived.BigQuiet
import Derived.Test.Qxb6600858aPkSmall
import Derived.Test.Qxb6600858aPkEq
import Derived.Deep.RegionHeld3
import Derived.Deep.DrawnRows
import Derived.Deep.DeepCutAuto
import Derived.Deep.AppendLies
namespace Go.Proofs.Qxb6600858a
open Go.RowKit

theorem Try.info36 : (Try.prog.info? 36).map (fun i => (i.zero, i.size, i.bytes)) = some (some (.slice none 0 0), 1, 24) := by kernel_rfl
theorem Try.info3' : (Try.prog.info? 3).map (fun i => (i.zero, i.size, i.bytes)) = some (some (.int .i64 0), 1, 8) := by kernel_rfl

attribute [local go_sem ↓] Go.wp_at_zero Go.wp_at_succ

theorem own_form {w : World} {base n : Nat} {e : TypeId} {sz : Nat} {v : Value} {xs : List Value} (h : w.ownsRow base e sz v n xs) : ∃ a c, v = .slice a n c := by
  rcases h.2 with ⟨rfl, rfl⟩ | ⟨g, cap, cur, rfl, _⟩
  · exact ⟨none, 0, rfl⟩
  · exact ⟨_, cap, rfl⟩

/-- WHAT zzWalkTree DOES AT A TREE OF HEIGHT h. -/
def WalkOk (w0 : World) (vb n : Nat) (S : Nat → ByteArray) (h : Nat) : Prop :=
  ∀ (D s t lo d fuel len : Nat) (F C : Nat → List Nat) (ld : Int) (w : World), Tree w0 vb n S h D s t lo F → (0 < d → 31 ≤ lo) → WS w0 vb n s ld len C w → (len = d ∨ len = d + h + 1) → (ld = -1 ∨ ld = ((d + h : Nat) : Int)) →
    h < fuel → fuel ≤ 64 → d + h ≤ 64 → (∀ x, (C (d + x)).length + (F x).length ≤ 1000000) →
    Calls Try.prog 27 #[.pointer (some ⟨w0.heap.size, 0, none⟩), .pointer (some ⟨D, 0, none⟩), .int .i64 d, .int .i64 fuel] w fun e w' => e = .returned (.int .i64 (t - s : Nat)) ∧
      WS w0 vb n t ((d + h : Nat) : Int) (d + h + 1) (fun i => C i ++ (if d ≤ i then F (i - d) else [])) w'

/-- What the function reads of the node before it looks at the children. -/
theorem Tree.head {w : World} {vb n : Nat} {S : Nat → ByteArray} : ∀ {h D s t lo : Nat} {F : Nat → List Nat}, Tree w vb n S h D s t lo F →
    ∃ (q vk vo kl kc : Nat) (ka : Option Addr), lo ≤ q ∧ q ≤ 63 ∧ F 0 = [q] ∧ w.cell? ⟨D, 0, none⟩ = some (.slice (some ⟨vk, vo, none⟩) q q) ∧ w.cell? ⟨D, 1, none⟩ = some (.slice ka kl kc) := by
  intro h
  cases h with
  | zero =>
    intro D s t lo F hT
    obtain ⟨h1, h2, h3, h4, rfl⟩ := hT
    exact ⟨t - s, vb, s * 2, 0, 0, none, by omega, by omega, rfl, h4.cell (i := 0) (by omega), h4.cell (i := 1) (by omega)⟩
  | succ h =>
    intro D s t lo F hT
    obtain ⟨q, K, bb, o, cp, cut, Fs, h1, h2, _, _, _, h6, _, _, _, rfl⟩ := hT
    exact ⟨q, bb, o * 2, q + 1, 65, some ⟨K, 0, none⟩, h1, h2, rfl, h6.cell (i := 0) (by omega), h6.cell (i := 1) (by omega)⟩

/-- A state's levels. -/
theorem WS.lvl {w0 : World} {vb n k : Nat} {ld : Int} {len : Nat} {C : Nat → List Nat} {wr : World} (h : WS w0 vb n k ld len C wr) : ∃ a c, wr.cell? ⟨w0.heap.size, 4, none⟩ = some (.slice a len c) := by
  obtain ⟨lv, hst, hlv⟩ := h.st
  obtain ⟨a, c, rfl⟩ := hlv.form
  exact ⟨a, c, hst.cell (i := 4) (by omega)⟩

set_option linter.unusedSimpArgs false in
set_option linter.unusedVariables false in
set_option maxRecDepth 100000 in
set_option maxHeartbeats 16000000 in
theorem walk_zero (w0 : World) (vb n : Nat) (S : Nat → ByteArray) (hn : n ≤ 65536) (hv : w0.rowIs vb 43 (n * 2) (vcell S)) (h : Nat) (hh0 : h = 0) : WalkOk w0 vb n S h := by
  intro D s t lo d fuel len F C ld w hT hdl hW hlen hld hf hf2 hd hbud
  obtain ⟨q, vk, vo, kl, kc, ka, hlo, hq63, hF0, m0, m1⟩ := hT.head
  have hDl : D < w0.heap.size := World.block_lt_of_cell? w0 _ m0
  have l0 : w.cell? ⟨D, 0, none⟩ = some (.slice (some ⟨vk, vo, none⟩) q q) := (hW.below.cell (p := ⟨D, 0, none⟩) hDl).trans m0
  have l1 : w.cell? ⟨D, 1, none⟩ = some (.slice ka kl kc) := (hW.below.cell (p := ⟨D, 1, none⟩) hDl).trans m1
  obtain ⟨hbel, ⟨lv, hst, ⟨xs, ow1, ow2, ow3⟩⟩, hem⟩ := hW
  obtain ⟨la, lc, rfl⟩ := own_form ow1
  have c4 : w.cell? ⟨w0.heap.size, 4, none⟩ = some (.slice la len lc) := hst.cell (i := 4) (by omega)
  have hWl := hst.lt
  go_enter Try.func27, Try.ntmps27
  go_upto_region 8 with (first | (go_at_call 19; refine (nodeValues_any _ _ _ _ _ l0).mono ?_; rintro e w' ⟨rfl, rfl⟩) | (go_at_call 20; refine (nodeChildren_any _ _ _ _ _ l1).mono ?_; rintro e w' ⟨rfl, rfl⟩))
  go_cut [46] (fun v wc => v = .bool false ∧ w = wc)
  case first =>
    clear_value *
    as_aux_lemma =>
      rcases Nat.eq_zero_or_pos d with h0 | h0
      · subst h0
        go_wp2_with fail
        go_meet
        case rel => exact ⟨rfl, rfl⟩
      · have hq31 : 31 ≤ q := Nat.le_trans (hdl h0) hlo
        go_wp2_with fail
        go_meet
        case rel => exact ⟨by simp; omega, rfl⟩
  case rest =>
    obtain ⟨rfl, rfl⟩ := hcut
    go_upto_if 56 with fail
    go_cut [] (fun wc => ∃ len', WS w0 vb n s ld len' C wc ∧ d < len' ∧ (len' = d + 1 ∨ len' = d + h + 1))
    case first =>
      clear_value *
      as_aux_lemma =>
        rcases hlen with rfl | rfl
        · have f4 := hst.frozen 4
          obtain ⟨i1, hi1, hy0, hy1, hy2⟩ := info_parts Try.info36
          have nb1 : (Value.slice la len lc).ownBlock ≠ some w0.heap.size := fun e => by
            have := (ow1.lt _ e).1
            omega
          go_wp2_with (at_builtin; refine wpList_append_lies _ (by rfl) (.tmp 61) (.tmp 62) 53 (by rfl) (w0.heap.size + 1) 36 i1 (.slice none 0 0) 1 24 Try.underlying53 hi1 hy0 hy1 hy2 (by rfl) (by omega) (.slice la len lc) len ((List.range len).map xs) (by rfl) (ow1.alloc _) ⟨w.heap.size, 0, none⟩ 1 1 [.slice none 0 0] (by rfl) (by rfl) (World.news_of_block (cs := #[.slice none 0 0]) (t := 36) (fr := (0, 0)) (heap_alloc_new w _)) ?n1 (by omega) ?n2 (by omega) ?n3 (w.heap.size + 1) ?n4 ?_)
          case n1 => intro u hu; simp at hu; subst hu; rfl
          case n2 => unfold maxLen; omega
          case n3 => rw [nb_alloc]; omega
          case n4 => exact nb_alloc _ _
          intro g cap w1 hown hgrow hat hlt
          have k1 : w1.cell? ⟨w0.heap.size, 4, none⟩ = some (.slice la len lc) := (hgrow.cell_far _ (by rw [nb_alloc]; show w0.heap.size < _; omega) (Ne.symm nb1)).trans ((World.cell?_alloc_past _ _ _ hWl).trans c4)
          have k2 : w1.frozen? ⟨w0.heap.size, 4, none⟩ = false := (hgrow.frozen_far _ (by rw [nb_alloc]; show w0.heap.size < _; omega) (Ne.symm nb1)).trans ((World.frozen?_alloc_past _ _ _ hWl).trans f4)
          have hR := ws_push hbel hst ow1 ow2 ow3 hem hown hgrow
          clear hown hgrow hat ow1 ow2 ow3 hem hst hbel
          go_wp2_with fail
          go_meet
          case rel => exact ⟨_, hR, by omega, .inl rfl⟩
        · have hne : ((d : Int) == ((d + h + 1 : Nat) : Int)) = false := by simp; omega
          go_wp2_with fail
          go_meet
          case rel => exact ⟨_, ⟨hbel, ⟨_, hst, xs, ow1, ow2, ow3⟩, hem⟩, by omega, .inr rfl⟩
    case rest =>
      obtain ⟨len', hW', hdlt, hlen'⟩ := hcut
      clear l0 l1 c4 hst ow1 ow2 ow3 hem hbel hlen hWl
      obtain ⟨hbel, ⟨lv, hst, ⟨ys, ow1, ow2, ow3⟩⟩, hem⟩ := hW'
      obtain ⟨g, cap, rfl, hgb, hgl⟩ := ow1.form (by omega)
      have c4 := hst.cell (i := 4) (by omega)
      simp only [stCell] at c4
      have oV := ow2 d hdlt
      obtain ⟨ao, cp, hV⟩ := own_form oV
      obtain ⟨L, hL⟩ : ∃ L, L = (C d).length := ⟨_, rfl⟩
      have hLb : L + 1 ≤ 1000001 := by have := hbud 0; simp only [Nat.add_zero] at this; omega
      have cg : wc.cell? ⟨g, d, none⟩ = some (.slice ao L cp) := by rw [ow1.cellAt d (by omega)]; simp [hV, hL, hdlt]
      have fg := ow1.frozenAt d
      have an1 : (Value.slice ao L cp).ownBlock ≠ some w0.heap.size := fun e => by
        rw [hL, ← hV] at e
        have := (oV.lt _ e).1
        omega
      have an2 : (Value.slice ao L cp).ownBlock ≠ some g := fun e => by
        rw [hL, ← hV] at e
        rcases own_ne oV ow1 (by decide) with h | h
        · rw [h] at e; cases e
        · exact h e
      have oV' : wc.ownsRow (w0.heap.size + 1) 3 1 (.slice ao L cp) L ((C d).map fun c => Value.int .i64 (c : Nat)) := by rw [hL, ← hV]; exact oV
      have lW := hst.lt
      have sX : ∀ X, ((wc.alloc X).drew).heap.size = wc.heap.size + 1 := fun X => nb_alloc wc X
      have bX : ∀ X, w0.heap.size + 1 ≤ ((wc.alloc X).drew).heap.size := fun X => by rw [sX]; omega
      have lX : ∀ X, w0.heap.size < ((wc.alloc X).drew).heap.size := fun X => by rw [sX]; omega
      have gX : ∀ X, g < ((wc.alloc X).drew).heap.size := fun X => by rw [sX]; omega
      have cgX : ∀ X, ((wc.alloc X).drew).cell? ⟨g, d, none⟩ = some (.slice ao L cp) := fun X => (World.cell?_alloc_past X g d hgl).trans cg
      have c4X : ∀ X, ((wc.alloc X).drew).cell? ⟨w0.heap.size, 4, none⟩ = some (.slice (some ⟨g, 0, none⟩) len' cap) := fun X => (World.cell?_alloc_past X _ _ lW).trans c4
      have fgX : ∀ X, ((wc.alloc X).drew).frozen? ⟨g, d, none⟩ = false := fun X => (World.frozen?_alloc_past X g d hgl).trans fg
      obtain ⟨i0, hi0, hz0, hz1, hz2⟩ := info_parts Try.info3'
      have HL : Hid (L = (C d).length) := hL
      have HV : Hid (ys d = .slice ao L cp) := by rw [hL]; exact hV
      have hdi : (d : Int) < (len' : Int) := by omega
      clear hV hL oV
      go_upto_region 13 with fail
      go_cut [] (fun wc => WS w0 vb n s ld len' (fun i => if i = d then C d ++ [q] else C i) wc)
      case first =>
        refine wp_region_noPanic ?_
        refine wp_region_held_drew (S := fun w' => w'.cell? ⟨w0.heap.size, 4, none⟩ = some (.slice (some ⟨g, 0, none⟩) len' cap)) (by kernel_rfl) ?_ (fun hHeld => ?_)
        · exact c4
        refine wpAnyH_take (i := 0) (v := ?_) rfl (by kernel_rfl) (by kernel_rfl) (by kernel_rfl) (fun _ _ _ h => h) (Or.inl ⟨by rfl, ?_⟩) (by assumption) ?_
        rotate_left
        · intro w hSw
          try dsimp only at hSw
          go_simp
          all_goals (with_reducible rfl)
        try simp only [Act.put, List.setIfInBounds_toArray, List.set_cons_zero, List.set_cons_succ]
        refine wpAnyH_take (i := 1) (v := ?_) rfl (by kernel_rfl) (by kernel_rfl) (by kernel_rfl) (fun _ _ _ h => h) (Or.inl ⟨by rfl, ?_⟩) (by assumption) ?_
        rotate_left
        · intro w hSw
          try dsimp only at hSw
          go_simp
          all_goals (with_reducible rfl)
        try simp only [Act.put, List.setIfInBounds_toArray, List.set_cons_zero, List.set_cons_succ]
        refine wpAnyH_take (i := 2) (v := ?_) rfl (by kernel_rfl) (by kernel_rfl) (by kernel_rfl) (fun _ _ _ h => h) (Or.inl ⟨by rfl, ?_⟩) (by assumption) ?_
        rotate_left
        · intro w hSw
          try dsimp only at hSw
          go_simp
          all_goals (with_reducible rfl)
        try simp only [Act.put, List.setIfInBounds_toArray, List.set_cons_zero, List.set_cons_succ]
        refine wpAnyH_take (i := 3) (v := ?_) rfl (by kernel_rfl) (by kernel_rfl) (by kernel_rfl) (fun _ _ _ h => h) (Or.inl ⟨by rfl, ?_⟩) (by assumption) ?_
        rotate_left
        · intro w hSw
          try dsimp only at hSw
          go_simp
          all_goals (with_reducible rfl)
        try simp only [Act.put, List.setIfInBounds_toArray, List.set_cons_zero, List.set_cons_succ]
        refine wpAnyH_take (i := 4) (v := ?_) rfl (by kernel_rfl) (by kernel_rfl) (by kernel_rfl) (fun _ _ _ h => h) (Or.inl ⟨by rfl, ?_⟩) (by assumption) ?_
        rotate_left
        · intro w hSw
          try dsimp only at hSw
          go_simp
          all_goals (with_reducible rfl)
        try simp only [Act.put, List.setIfInBounds_toArray, List.set_cons_zero, List.set_cons_succ]
        refine wpAnyH_take (i := 5) (v := ?_) rfl (by kernel_rfl) (by kernel_rfl) (by kernel_rfl) (fun _ _ _ h => h) (Or.inl ⟨by rfl, ?_⟩) (by assumption) ?_
        rotate_left
        · intro w hSw
          try dsimp only at hSw
          go_simp
          all_goals (with_reducible rfl)
        try simp only [Act.put, List.setIfInBounds_toArray, List.set_cons_zero, List.set_cons_succ]
        refine wpAnyH_take (i := 6) (v := ?_) rfl (by kernel_rfl) (by kernel_rfl) (by kernel_rfl) (fun _ _ _ h => h) (Or.inl ⟨by rfl, ?_⟩) (by assumption) ?_
        rotate_left
        · intro w hSw
          try dsimp only at hSw
          go_simp
          all_goals (with_reducible rfl)
        try simp only [Act.put, List.setIfInBounds_toArray, List.set_cons_zero, List.set_cons_succ]
        refine wpAnyH_take (i := 7) (v := ?_) rfl (by kernel_rfl) (by kernel_rfl) (by kernel_rfl) (fun _ _ _ h => h) (Or.inl ⟨by rfl, ?_⟩) (by assumption) ?_
        rotate_left
        · intro w hSw
          try dsimp only at hSw
          go_simp
          all_goals (with_reducible rfl)
        try simp only [Act.put, List.setIfInBounds_toArray, List.set_cons_zero, List.set_cons_succ]
        refine wpAnyH_take (i := 8) (v := ?_) rfl (by kernel_rfl) (by kernel_rfl) (by kernel_rfl) (fun _ _ _ h => h) (Or.inl ⟨by rfl, ?_⟩) (by assumption) ?_
        rotate_left
        · intro w hSw
          try dsimp only at hSw
          go_simp
          all_goals (with_reducible rfl)
        try simp only [Act.put, List.setIfInBounds_toArray, List.set_cons_zero, List.set_cons_succ]
        refine wpAnyH_take (i := 9) (v := ?_) rfl (by kernel_rfl) (by kernel_rfl) (by kernel_rfl) (fun _ _ _ h => h) (Or.inl ⟨by rfl, ?_⟩) (by assumption) ?_
        rotate_left
        · intro w hSw
          try dsimp only at hSw
          go_simp
          all_goals (with_reducible rfl)
        try simp only [Act.put, List.setIfInBounds_toArray, List.set_cons_zero, List.set_cons_succ]
        refine wpAnyH_take (i := 10) (v := ?_) rfl (by kernel_rfl) (by kernel_rfl) (by kernel_rfl) (fun _ _ _ h => h) (Or.inl ⟨by rfl, ?_⟩) (by assumption) ?_
        rotate_left
        · intro w hSw
          try dsimp only at hSw
          go_simp
          all_goals (with_reducible rfl)
        try simp only [Act.put, List.setIfInBounds_toArray, List.set_cons_zero, List.set_cons_succ]
        refine wpAnyH_take (i := 12) (v := ?_) rfl (by kernel_rfl) (by kernel_rfl) (by kernel_rfl) (fun _ _ _ h => h) (Or.inl ⟨by rfl, ?_⟩) (by assumption) ?_
        rotate_left
        · intro w hSw
          try dsimp only at hSw
          go_simp
          all_goals (with_reducible rfl)
        try simp only [Act.put, List.setIfInBounds_toArray, List.set_cons_zero, List.set_cons_succ]
        refine wpAnyH_take (i := 13) (v := ?_) rfl (by kernel_rfl) (by kernel_rfl) (by kernel_rfl) (fun _ _ _ h => h) (Or.inl ⟨by rfl, ?_⟩) (by assumption) ?_
        rotate_left
        · intro w hSw
          try dsimp only at hSw
          go_simp
          all_goals (with_reducible rfl)
        try simp only [Act.put, List.setIfInBounds_toArray, List.set_cons_zero, List.set_cons_succ]
        refine wpAnyH_ready (rs := [11, 14]) (by kernel_rfl) (by simp) ?_
        refine AllReadyH.cons rfl (fun K hK => ?_) (AllReadyH.cons rfl (fun K hK => ?_) AllReadyH.nil)
        · go_simp
          refine hK.out _ _ ?_ (fun hHeld => ?_)
          · exact c4
          try simp only [Act.put, List.setIfInBounds_toArray, List.set_cons_zero, List.set_cons_succ]
          refine wpAnyH_ready (rs := [14]) (by kernel_rfl) (by simp) ?_
          refine AllReadyH.cons rfl (fun K hK => ?_) AllReadyH.nil
          go_simp
          refine hK.out _ _ ?_ (fun hHeld => ?_)
          · exact c4X _
          try simp only [Act.put, List.setIfInBounds_toArray, List.set_cons_zero, List.set_cons_succ]
          refine wpAnyH_ready (rs := [15]) (by kernel_rfl) (by simp) ?_
          refine AllReadyH.cons rfl (fun K hK => ?_) AllReadyH.nil
          refine step_append_lies _ (by rfl) _ _ _ (by rfl) (w0.heap.size + 1) 3 i0 _ 1 8 Try.underlying36 hi0 hz0 hz1 hz2 rfl (by omega) (.slice ao L cp) L ((C d).map fun c => Value.int .i64 (c : Nat)) (by rfl) ((oV'.alloc _).drew) ⟨wc.heap.size, 0, none⟩ 1 1 [.int .i64 (q : Nat)] (by rfl) (by rfl) (World.news_of_block (cs := #[.int .i64 (q : Nat)]) (t := 3) (fr := (0, 0)) (heap_alloc_new wc _)) (by simp [Value.oneCell']) (by omega) (by unfold maxLen; omega) (by omega) (bX _) (wc.heap.size + 1) (sX _) ?_
          intro gg cap' w1 hown1 hgrow hat hlt
          have k1 : w1.cell? ⟨w0.heap.size, 4, none⟩ = some (.slice (some ⟨g, 0, none⟩) len' cap) := (hgrow.cell_far _ (lX _) (Ne.symm an1)).trans (c4X _)
          have k2 : w1.cell? ⟨g, d, none⟩ = some (.slice ao L cp) := (hgrow.cell_far _ (gX _) (Ne.symm an2)).trans (cgX _)
          have k3 : w1.frozen? ⟨g, d, none⟩ = false := (hgrow.frozen_far _ (gX _) (Ne.symm an2)).trans (fgX _)
          refine hK.out _ _ ?_ (fun hHeld => ?_)
          · exact k1
          try simp only [Act.put, List.setIfInBounds_toArray, List.set_cons_zero, List.set_cons_succ]
          refine wpAnyH_take (i := 16) (v := ?_) rfl (by kernel_rfl) (by kernel_rfl) (by kernel_rfl) (fun _ _ _ h => h) (Or.inl ⟨by rfl, ?_⟩) (by assumption) ?_
          rotate_left
          · intro w hSw
            try dsimp only at hSw
            go_simp
            all_goals (with_reducible rfl)
          try simp only [Act.put, List.setIfInBounds_toArray, List.set_cons_zero, List.set_cons_succ]
          refine wpAnyH_ready (rs := [17]) (by kernel_rfl) (by simp) ?_
          refine AllReadyH.cons rfl (fun K hK => ?_) AllReadyH.nil
          go_simp
          refine hK.out _ _ ?_ (fun hHeld => ?_)
          · exact (World.cell?_of_block (Below.heap_setCell _ _ _ _ (by show w0.heap.size ≠ g; omega))).trans k1
          try simp only [Act.put, List.setIfInBounds_toArray, List.set_cons_zero, List.set_cons_succ]
          refine wpAnyH_done (by kernel_rfl) ?_ _
          refine NoPanic.normal ?_
          rw [← HV.out] at hgrow hat
          rw [HL.out] at hown1
          have hR := ws_add hbel hst ow1 ow2 ow3 hem hdlt hown1 hgrow (hat.imp (fun h => h.symm) (fun h => by rw [h]; rfl)) rfl
          rw [HL.out]
          go_wp2_with fail
          go_meet
          case rel => exact hR
        · go_simp
          refine hK.out _ _ ?_ (fun hHeld => ?_)
          · exact c4X _
          try simp only [Act.put, List.setIfInBounds_toArray, List.set_cons_zero, List.set_cons_succ]
          refine wpAnyH_ready (rs := [11]) (by kernel_rfl) (by simp) ?_
          refine AllReadyH.cons rfl (fun K hK => ?_) AllReadyH.nil
          go_simp
          refine hK.out _ _ ?_ (fun hHeld => ?_)
          · exact c4X _
          try simp only [Act.put, List.setIfInBounds_toArray, List.set_cons_zero, List.set_cons_succ]
          refine wpAnyH_ready (rs := [15]) (by kernel_rfl) (by simp) ?_
          refine AllReadyH.cons rfl (fun K hK => ?_) AllReadyH.nil
          refine step_append_lies _ (by rfl) _ _ _ (by rfl) (w0.heap.size + 1) 3 i0 _ 1 8 Try.underlying36 hi0 hz0 hz1 hz2 rfl (by omega) (.slice ao L cp) L ((C d).map fun c => Value.int .i64 (c : Nat)) (by rfl) ((oV'.alloc _).drew) ⟨wc.heap.size, 0, none⟩ 1 1 [.int .i64 (q : Nat)] (by rfl) (by rfl) (World.news_of_block (cs := #[.int .i64 (q : Nat)]) (t := 3) (fr := (0, 0)) (heap_alloc_new wc _)) (by simp [Value.oneCell']) (by omega) (by unfold maxLen; omega) (by omega) (bX _) (wc.heap.size + 1) (sX _) ?_
          intro gg cap' w1 hown1 hgrow hat hlt
          have k1 : w1.cell? ⟨w0.heap.size, 4, none⟩ = some (.slice (some ⟨g, 0, none⟩) len' cap) := (hgrow.cell_far _ (lX _) (Ne.symm an1)).trans (c4X _)
          have k2 : w1.cell? ⟨g, d, none⟩ = some (.slice ao L cp) := (hgrow.cell_far _ (gX _) (Ne.symm an2)).trans (cgX _)
          have k3 : w1.frozen? ⟨g, d, none⟩ = false := (hgrow.frozen_far _ (gX _) (Ne.symm an2)).trans (fgX _)
          refine hK.out _ _ ?_ (fun hHeld => ?_)
          · exact k1
          try simp only [Act.put, List.setIfInBounds_toArray, List.set_cons_zero, List.set_cons_succ]
          refine wpAnyH_take (i := 16) (v := ?_) rfl (by kernel_rfl) (by kernel_rfl) (by kernel_rfl) (fun _ _ _ h => h) (Or.inl ⟨by rfl, ?_⟩) (by assumption) ?_
          rotate_left
          · intro w hSw
            try dsimp only at hSw
            go_simp
            all_goals (with_reducible rfl)
          try simp only [Act.put, List.setIfInBounds_toArray, List.set_cons_zero, List.set_cons_succ]
          refine wpAnyH_ready (rs := [17]) (by kernel_rfl) (by simp) ?_
          refine AllReadyH.cons rfl (fun K hK => ?_) AllReadyH.nil
          go_simp
          refine hK.out _ _ ?_ (fun hHeld => ?_)
          · exact (World.cell?_of_block (Below.heap_setCell _ _ _ _ (by show w0.heap.size ≠ g; omega))).trans k1
          try simp only [Act.put, List.setIfInBounds_toArray, List.set_cons_zero, List.set_cons_succ]
          refine wpAnyH_done (by kernel_rfl) ?_ _
          refine NoPanic.normal ?_
          rw [← HV.out] at hgrow hat
          rw [HL.out] at hown1
          have hR := ws_add hbel hst ow1 ow2 ow3 hem hdlt hown1 hgrow (hat.imp (fun h => h.symm) (fun h => by rw [h]; rfl)) rfl
          rw [HL.out]
          go_wp2_with fail
          go_meet
          case rel => exact hR
      case rest =>
        have hW := hcut
        clear hcut hst ow1 ow2 ow3 hem hbel sX bX lX gX cgX c4X fgX cg fg an1 an2 oV' lW HL HV hi0 hz0 hz1 hz2 hgb hgl c4
        cases h with
        | zero =>
          clear hh0
          obtain ⟨_, g2, g3, hnode, hF⟩ := hT
          have e0 := hnode.cell (i := 0) (by omega)
          have e1 := hnode.cell (i := 1) (by omega)
          have e2 := hnode.cell (i := 2) (by omega)
          rw [m0] at e0
          rw [m1] at e1
          simp only [nodeCell, if_true, Nat.one_ne_zero, if_false, Option.some.injEq, Value.slice.injEq, Addr.mk.injEq, and_true] at e0 e1
          obtain ⟨⟨hvk, hvo⟩, hq, hq'⟩ := e0
          clear hq'
          obtain rfl := hvk.symm
          obtain rfl := hvo.symm
          obtain ⟨rfl, rfl, rfl⟩ := e1
          have hst' : s ≤ t := by omega
          have e2' : w0.cell? ⟨D, 2, none⟩ = some (.int .i64 (q : Nat)) := by rw [e2, hq]; rfl
          have hlen1 : len' = d + 1 := by omega
          have hsq : (s : Int) + (q : Int) = (t : Int) := by omega
          have HQ : Hid (q = t - s) := hq
          have htn : t ≤ n := g2
          have hsqn : s + q ≤ n := by omega
          clear m0 m1 hnode e2 hlen' hdlt hdi hbud
          have hsn : ∀ wx : World, (binOp .eql 32 (.slice none 0 0) (.slice none 0 0)).run Try.prog wx = .ok (.bool true) wx := fun wx => by
            rw [Lib.run_eql_slice_nil wx 32 37 none 0 0 0 0 Try.underlying32]; rfl
          have c3 := hW.c3
          have f3 := hW.fz 3
          have HRR : Hid (Pk.cnt 0 = 1) := by show _ = _; rfl
          clear hq
          go_upto_if 98 with fail
          go_cut [] (fun wx => WS w0 vb n s (d : Int) len' (fun i => if i = d then C d ++ [q] else C i) wx)
          case first =>
            clear_value *
            as_aux_lemma =>
              rcases hld with rfl | hld
              · have hR := hW.setLd (d : Int)
                go_wp2_with fail
                go_meet
                case rel => exact hR
              · simp only [Nat.add_zero] at hld
                subst hld
                go_wp2_with fail
                go_meet
                case rel => exact hW
          case rest =>
            clear c3 f3 hW hsn
            have hW := hcut
            clear hcut
            have c0 := hW.c0
            have c1 := hW.c1
            have f1 := hW.fz 1
            go_wp2_with fail
            obtain ⟨wx, rfl⟩ : ∃ wx : World, wx = wc := ⟨_, rfl⟩
            go_loopw [12] (fun vj w3 => ∃ j nq : Nat, j ≤ q ∧ vj = .int .i64 j ∧ w3 = wx.drewN nq) (fun vj _ => q - (intOf vj).toNat)
            case atStart => exact ⟨0, 0, Nat.zero_le _, rfl, rfl⟩
            case round =>
              obtain ⟨j, nq, hj, rfl, rfl⟩ := hrel
              by_cases hjq : j < q
              · clear_value *
                as_aux_lemma =>
                  obtain ⟨x, hx⟩ : ∃ x, x = s + j := ⟨_, rfl⟩
                  have hw : IntKind.i64.wrap ((s : Int) + (j : Int)) = (x : Int) := by rw [IntKind.wrap_i64]; omega
                  have hd1 : decide ((n : Int) ≤ (x : Int)) = false := decide_eq_false (by omega)
                  have hd2 : decide (n ≤ x) = false := decide_eq_false (by omega)
                  have he : x * 2 = s * 2 + j * 2 := by omega
                  have b1 : (x : Int) < (n : Int) := by omega
                  have b2 : (j : Int) < (q : Int) := by omega
                  have hpq := neq_same41 ⟨vb, s * 2 + j * 2, none⟩
                  clear hx hsq
                  go_wp2_with fail
                  go_quiet (fail)
                  go_wp2_with fail
                  go_roundw
                  case rel => exact ⟨j + 1, _, by omega, by go_num, rfl⟩
                  case measure => simp [intOf]; omega
              · have hR := (hW.drewAny nq).setK t
                have l2 : ∀ v, ((wx.drewN nq).setCell ⟨w0.heap.size, 1, none⟩ v).cell? ⟨D, 2, none⟩ = some (.int .i64 (q : Nat)) := fun v => by
                  rw [World.cell?_of_block (Below.heap_setCell _ _ _ _ (by show D ≠ w0.heap.size; omega))]
                  exact (hW.below.cell (p := ⟨D, 2, none⟩) hDl).trans e2'
                go_wp2_with (go_at_call 21; refine (nodeSize_any _ _ _ (l2 _)).mono ?_; rintro e w' ⟨rfl, rfl⟩)
                go_ret
                refine ⟨by rw [← HQ.out]; rfl, ?_⟩
                refine hR.congr rfl (by simp) (by omega) (fun i => ?_)
                rw [hF]
                by_cases e : i = d
                · subst e
                  simp [HQ.out]
                · rw [if_neg e]
                  by_cases e2 : d ≤ i
                  · rw [if_pos e2]
                    have : ¬ i - d = 0 := by omega
                    simp [this]
                  · rw [if_neg e2]; simp
        | succ h => exact absurd hh0 (Nat.succ_ne_zero h)

end Go.Proofs.Qxb6600858a
