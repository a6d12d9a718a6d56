/-
  THE WALKS of orderedFrom (32) and what hands it on: ZZOrderedFrom (23), ZZOrderedRoot (26), ZZOrderedType (24), ZZOrderedLen (25), len (33).
-/
import Derived.Test.Qxb6600858aTrMem
import Derived.Test.Qxb6600858aPkLeaf
import Derived.Test.Qxb6600858aPkUpper
namespace Go.Proofs.Qxb6600858a
open Go.RowKit

def sliceLen : Value → Nat | .slice _ n _ => n | _ => 0

theorem rowIs_new2 {w : World} {a b : Value} {t : TypeId} {f : Nat → Value} {n : Nat} (hn : w.heap.size = n) (h0 : f 0 = a) (h1 : f 1 = b) : (w.alloc (.cells #[a, b] t)).rowIs n t 2 f := by
  subst hn
  refine World.rowIs_alloc w #[a, b] t f (fun i hi => ?_)
  match i, hi with
  | 0, _ => simp [h0]
  | 1, _ => simp [h1]

theorem uppers_congr {w w' : World} {vb m : Nat} {S : Nat → ByteArray} {cp sz sz' : Nat → Nat} (h : Uppers w vb m S cp sz (Pk.cnt m) w') (e : ∀ i, i ≤ m → sz i = sz' i) : Uppers w vb m S cp sz' (Pk.cnt m) w' := by
  refine ⟨h.size, h.nodes, h.betw, fun i hi => ?_, h.kids, h.below⟩
  have := h.node i hi
  have hin := Pk.pos_in m i hi
  rw [Pk.sumTo_congr (g := sz') _ _ (fun j h1 h2 => e j (by omega))] at this
  exact this

def pairCell (a b : Value) (j : Nat) : Value := if j = 0 then a else b

set_option maxRecDepth 100000 in
set_option maxHeartbeats 800000 in
theorem orderedFrom_any (ty : Int) (vb n : Nat) (S : Nat → ByteArray) (w : World) (hn : n ≤ 65536) (hn1 : 1 ≤ n) (hv : w.rowIs vb 43 (n * 2) (vcell S)) :
    Calls Try.prog 32 #[.int .u8 ty, .slice (some ⟨vb, 0, none⟩) n n] w fun e w' => ∃ (h D : Nat) (F : Nat → List Nat),
      e = .returned (.agg #[.int .u8 ty, .pointer (some ⟨D, 0, none⟩)]) ∧ Tree w' vb n S h D 0 n 0 F ∧ (∀ x, x ≤ h → F x = Tr.counts (Tr.mm n (h - x))) ∧
      (∀ g, g < h → 2 ≤ Pk.cnt (Tr.mm n g)) ∧ Pk.cnt (Tr.mm n h) = 1 ∧ Below w.heap.size w w' := by
  have hnz : ((n : Int) == 0) = false := by simp; omega
  go_enter Try.func32, Try.ntmps32
  go_wp2_with fail
  obtain ⟨wx, hwx⟩ : ∃ wx : World, wx = (w.alloc (.cells #[.int .u8 0, .pointer none] 47)).alloc (.cells #[.int .u8 ty, .pointer none] 47) := ⟨_, rfl⟩
  rw [← hwx]
  have x1 : wx.heap.size = w.heap.size + 2 := by rw [hwx, nb_alloc, nb_alloc]
  have x2 : wx.rowIs vb 43 (n * 2) (vcell S) := by rw [hwx]; exact (hv.alloc _).alloc _
  have x3 : wx.rowIs w.heap.size 47 2 (pairCell (.int .u8 0) (.pointer none)) := by rw [hwx]; exact (rowIs_new2 (f := pairCell (.int .u8 0) (.pointer none)) rfl rfl rfl).alloc _
  have x4 : wx.rowIs (w.heap.size + 1) 47 2 (pairCell (.int .u8 ty) (.pointer none)) := by rw [hwx]; exact rowIs_new2 (f := pairCell (.int .u8 ty) (.pointer none)) (by rw [nb_alloc]) rfl rfl
  have x5 : Below w.heap.size w wx := by rw [hwx]; exact ((Below.refl _ _).alloc (Nat.le_refl _) _).alloc (by rw [nb_alloc]; omega) _
  clear hwx
  have HP := pack_leaf vb n S wx hn x2
  refine HP.mono ?_
  rintro e w1 ⟨rfl, hL⟩
  have hV := lev_leaf hL
  have hb1 := hL.below
  rw [x1] at hV
  clear HP hL
  go_wp2_with fail
  go_loopw [6, 7] (fun v6 v7 wr => ∃ (h m nb bb : Nat) (cp cut : Nat → Nat) (Fs : Nat → Nat → List Nat), v6 = .slice (some ⟨nb, 0, none⟩) (Pk.cnt m) (Pk.cnt m) ∧ v7 = .slice (some ⟨bb, 0, none⟩) (Pk.cnt m - 1) (Pk.cnt m - 1) ∧
      Lev wr vb n S h m nb bb cp cut Fs ∧ Below wx.heap.size wx wr ∧ Pk.cnt m ≤ 1025)
    (fun v6 _ _ => sliceLen v6)
  case atStart => exact ⟨0, n, _, _, _, _, _, rfl, rfl, hV, hb1, Pk.cnt_bound n hn⟩
  case round =>
    clear hV hb1
    obtain ⟨h, m, nb, bb, cp, cut, Fs, rfl, rfl, hV, hbw, hcb⟩ := hrel
    by_cases h2 : 2 ≤ Pk.cnt m
    · obtain ⟨m', hm'⟩ : ∃ m', m' = Pk.cnt m - 1 := ⟨_, rfl⟩
      have hmm : Pk.cnt m = m' + 1 := by omega
      have hcut : ∀ i, i < Pk.cnt m → cut i < cut (i + 1) := fun i hi => (hV.tree i hi).1
      have hbt := hV.betw
      have hnd := hV.nodes
      have hlt := Tr.cnt_drop m h2
      rw [← hm'] at hbt hlt
      have hszs : ∀ i, i ≤ m' → wr.cell? ⟨cp i, 2, none⟩ = some (.int .i64 (cut (i + 1) - 1 - cut i : Nat)) := fun i hi => (hV.tree i (by omega)).2.size
      rw [hmm] at hnd
      have hszb : ∀ i, (if i ≤ m' then cut (i + 1) - 1 - cut i else 0) ≤ 65536 := fun i => by
        by_cases hi : i ≤ m'
        · rw [if_pos hi]
          have := (hV.tree i (by omega)).2.le
          omega
        · rw [if_neg hi]; omega
      have HP := pack_upper bb nb m' (fun i => S (cut (i + 1) - 1)) cp (fun i => if i ≤ m' then cut (i + 1) - 1 - cut i else 0) wr (by omega) hbt hnd (fun i hi => by rw [if_pos hi]; exact hszs i hi) hszb
      have hgo : (1 : Int) < ((m' + 1 : Nat) : Int) := by omega
      rw [hmm, Nat.add_sub_cancel]
      have HM1 : Hid (m' = Pk.cnt m - 1) := hm'
      clear hbt hnd hszs hszb hcut hmm hm'
      go_wp2_with fail
      refine HP.mono ?_
      rintro e w2 ⟨rfl, hU⟩
      have hV2 := lev_upper hV h2 HM1.out (uppers_congr hU (fun i hi => by rw [if_pos hi]))
      have hb2 := hU.below
      clear HP hU hV
      go_wp2_with fail
      go_roundw
      case rel => exact ⟨h + 1, m', _, _, _, _, _, rfl, rfl, hV2, hbw.trans (hb2.mono hbw.size), by omega⟩
      case measure => have := HM1.out; simp [sliceLen]; omega
    · have hc1 : Pk.cnt m = 1 := by have := Pk.cnt_pos m; omega
      have hnd := hV.nodes
      have hE := hV.cutE
      have h0 := hV.cut0
      have hT := (hV.tree 0 (by omega)).2
      have hF := hV.flat
      have hM := hV.isMm
      have hmore := hV.more
      rw [hc1] at hnd hE hT hF
      rw [if_neg (by omega), Nat.zero_add, hE, h0, Nat.add_sub_cancel] at hT
      have cn := hnd.cell (i := 0) (by omega)
      have y3 := x3.of_block (hbw.block _ (by omega))
      have y4 := x4.of_block (hbw.block _ (by omega))
      have a0 := y3.cell (i := 0) (by omega)
      have a1 := y3.cell (i := 1) (by omega)
      have f0 := y3.frozen 0
      have f1 := y3.frozen 1
      have b0 := y4.cell (i := 0) (by omega)
      have b1 := y4.cell (i := 1) (by omega)
      have g0 := y4.frozen 0
      have g1 := y4.frozen 1
      simp only [pairCell, if_true, Nat.one_ne_zero, if_false] at a0 a1 b0 b1
      rw [hc1]
      obtain ⟨D, hD⟩ : ∃ D, D = cp 0 := ⟨_, rfl⟩
      rw [← hD] at cn hT
      have p3 : Apart47 wr w.heap.size := ⟨_, y3, fun x s hx => by match x, hx with
        | 0, _ => simp [pairCell]
        | 1, _ => simp [pairCell]⟩
      have p4 : Apart47 wr (w.heap.size + 1) := ⟨_, y4, fun x s hx => by match x, hx with
        | 0, _ => simp [pairCell]
        | 1, _ => simp [pairCell]⟩
      have hc1' := hM ▸ hc1
      have hFF : ∀ x, x ≤ h → Fs 0 x = Tr.counts (Tr.mm n (h - x)) := fun x hx => by
        have := hF x hx
        simpa using this
      have hbB := x5.trans (hbw.mono (by omega))
      clear hE h0 hc1 hnd hV y3 y4 x1 x2 x3 x4 hF hM hD
      go_wp2_with fail
      refine bodyPost_ret (v := .agg #[.int .u8 ty, .pointer (some ⟨D, 0, none⟩)]) (by simp [results, Try.results32, go_sem, a0, a1]) rfl ⟨h, D, Fs 0, rfl, ?_, hFF, hmore, hc1', ?_⟩
      · refine hT.mono47 (fun k hk => ?_)
        by_cases e1 : k = w.heap.size
        · subst e1; exact .inr p3
        · by_cases e2 : k = w.heap.size + 1
          · subst e2; exact .inr p4
          · refine .inl ?_
            rw [Below.heap_setCell _ _ _ _ (by exact e1), Below.heap_setCell _ _ _ _ (by exact e1), Below.heap_setCell _ _ _ _ (by exact e2)]
      · exact ((hbB.setCell (by show w.heap.size ≤ w.heap.size + 1; omega) _).setCell (Nat.le_refl _) _).setCell (Nat.le_refl _) _

/-- No values: no root. -/
theorem orderedFrom_zero (ty : Int) (a : Option Addr) (c : Nat) (w : World) :
    Calls Try.prog 32 #[.int .u8 ty, .slice a 0 c] w fun e w' => e = .returned (.agg #[.int .u8 ty, .pointer none]) ∧ Below w.heap.size w w' := by
  go_enter Try.func32, Try.ntmps32
  go_wp2_with fail
  exact bodyPost_ret (v := .agg #[.int .u8 ty, .pointer none]) (by simp [results, Try.results32, go_sem]) rfl ⟨rfl, ((Below.refl _ _).alloc (Nat.le_refl _) _).alloc (by rw [nb_alloc]; omega) _⟩

theorem zzOrderedFrom_zero (ty : Int) (a : Option Addr) (c : Nat) (w : World) :
    Calls Try.prog 23 #[.int .u8 ty, .slice a 0 c] w fun e w' => e = .returned (.agg #[.int .u8 ty, .pointer none]) ∧ Below w.heap.size w w' := by
  have HO := orderedFrom_zero ty a c (w.alloc (.cells #[.int .u8 0, .pointer none] 47))
  have x3 : (w.alloc (.cells #[.int .u8 0, .pointer none] 47)).rowIs w.heap.size 47 2 (pairCell (.int .u8 0) (.pointer none)) := rowIs_new2 (f := pairCell (.int .u8 0) (.pointer none)) rfl rfl rfl
  go_enter Try.func23, Try.ntmps23
  go_wp2_with fail
  refine HO.mono ?_
  rintro e w1 ⟨rfl, hb⟩
  have y3 := x3.of_block (hb.block _ (by rw [nb_alloc]; omega))
  have a0 := y3.cell (i := 0) (by omega)
  have a1 := y3.cell (i := 1) (by omega)
  have f0 := y3.frozen 0
  have f1 := y3.frozen 1
  have hbB : Below w.heap.size w w1 := ((Below.refl _ _).alloc (Nat.le_refl _) _).trans (hb.mono (by rw [nb_alloc]; omega))
  clear y3 x3 hb HO
  go_wp2_with fail
  exact bodyPost_ret (v := .agg #[.int .u8 ty, .pointer none]) (by simp [results, Try.results23, go_sem, a0, a1]) rfl ⟨rfl, (hbB.setCell (Nat.le_refl _) _).setCell (Nat.le_refl _) _⟩

set_option maxRecDepth 100000 in
theorem zzOrderedFrom_any (ty : Int) (vb n : Nat) (S : Nat → ByteArray) (w : World) (hn : n ≤ 65536) (hn1 : 1 ≤ n) (hv : w.rowIs vb 43 (n * 2) (vcell S)) :
    Calls Try.prog 23 #[.int .u8 ty, .slice (some ⟨vb, 0, none⟩) n n] w fun e w' => ∃ (h D : Nat) (F : Nat → List Nat),
      e = .returned (.agg #[.int .u8 ty, .pointer (some ⟨D, 0, none⟩)]) ∧ Tree w' vb n S h D 0 n 0 F ∧ (∀ x, x ≤ h → F x = Tr.counts (Tr.mm n (h - x))) ∧
      (∀ g, g < h → 2 ≤ Pk.cnt (Tr.mm n g)) ∧ Pk.cnt (Tr.mm n h) = 1 ∧ Below w.heap.size w w' := by
  have HO := orderedFrom_any ty vb n S (w.alloc (.cells #[.int .u8 0, .pointer none] 47)) hn hn1 (hv.alloc _)
  have x3 : (w.alloc (.cells #[.int .u8 0, .pointer none] 47)).rowIs w.heap.size 47 2 (pairCell (.int .u8 0) (.pointer none)) := rowIs_new2 (f := pairCell (.int .u8 0) (.pointer none)) rfl rfl rfl
  go_enter Try.func23, Try.ntmps23
  go_wp2_with fail
  refine HO.mono ?_
  rintro e w1 ⟨h, D, F, rfl, hT, hF, hmore, hc1, hb⟩
  have y3 := x3.of_block (hb.block _ (by rw [nb_alloc]; omega))
  have a0 := y3.cell (i := 0) (by omega)
  have a1 := y3.cell (i := 1) (by omega)
  have f0 := y3.frozen 0
  have f1 := y3.frozen 1
  have p3 : Apart47 w1 w.heap.size := ⟨_, y3, fun x s hx => by match x, hx with
    | 0, _ => simp [pairCell]
    | 1, _ => simp [pairCell]⟩
  have hbB : Below w.heap.size w w1 := ((Below.refl _ _).alloc (Nat.le_refl _) _).trans (hb.mono (by rw [nb_alloc]; omega))
  clear y3 x3 hb HO
  go_wp2_with fail
  refine bodyPost_ret (v := .agg #[.int .u8 ty, .pointer (some ⟨D, 0, none⟩)]) (by simp [results, Try.results23, go_sem, a0, a1]) rfl ⟨h, D, F, rfl, ?_, hF, hmore, hc1, (hbB.setCell (Nat.le_refl _) _).setCell (Nat.le_refl _) _⟩
  refine hT.mono47 (fun k hk => ?_)
  by_cases e1 : k = w.heap.size
  · subst e1; exact .inr p3
  · refine .inl ?_
    rw [Below.heap_setCell _ _ _ _ (by exact e1), Below.heap_setCell _ _ _ _ (by exact e1)]

theorem orderedRoot_any (b : Nat) (p : Option Addr) (w : World) (h : w.cell? ⟨b, 1, none⟩ = some (.pointer p)) :
    Calls Try.prog 26 #[.pointer (some ⟨b, 0, none⟩)] w fun e w' => e = .returned (.pointer p) ∧ w = w' := by
  go_enter Try.func26, Try.ntmps26
  go_wp2
  go_ret
  exact ⟨rfl, rfl⟩
theorem orderedType_any (b : Nat) (ty : Int) (w : World) (h : w.cell? ⟨b, 0, none⟩ = some (.int .u8 ty)) :
    Calls Try.prog 24 #[.pointer (some ⟨b, 0, none⟩)] w fun e w' => e = .returned (.int .u8 ty) ∧ w = w' := by
  go_enter Try.func24, Try.ntmps24
  go_wp2
  go_ret
  exact ⟨rfl, rfl⟩
theorem orderedLen_any (b D : Nat) (z : Int) (w : World) (h : w.cell? ⟨b, 1, none⟩ = some (.pointer (some ⟨D, 0, none⟩))) (hz : w.cell? ⟨D, 2, none⟩ = some (.int .i64 z)) :
    Calls Try.prog 25 #[.pointer (some ⟨b, 0, none⟩)] w fun e w' => e = .returned (.int .i64 z) ∧ w = w' := by
  go_enter Try.func25, Try.ntmps25
  go_wp2
  go_ret
  exact ⟨rfl, rfl⟩
theorem orderedLen_zero (b : Nat) (w : World) (h : w.cell? ⟨b, 1, none⟩ = some (.pointer none)) :
    Calls Try.prog 25 #[.pointer (some ⟨b, 0, none⟩)] w fun e w' => e = .returned (.int .i64 0) ∧ w = w' := by
  go_enter Try.func25, Try.ntmps25
  go_wp2
  go_ret
  exact ⟨rfl, rfl⟩

end Go.Proofs.Qxb6600858a
