/-
  THE TREE IN MEMORY: what a node leads to; what one level of nodes is; the leaves' level, and the level above a level.
-/
import Derived.Test.Qxb6600858aPkUppers
import Derived.Test.Qxb6600858aTrPlain
namespace Go.Proofs.Qxb6600858a
open Go.RowKit

/-- NODE D LEADS TO A TREE OF HEIGHT h OVER THE INPUT's PLACES s .. t-1: 'lo' at least are its own values; F x: the counts of its nodes x levels below it, left to right. -/
def Tree (w : World) (vb n : Nat) (S : Nat → ByteArray) : Nat → Nat → Nat → Nat → Nat → (Nat → List Nat) → Prop
  | 0, D, s, t, lo, F => s + lo ≤ t ∧ t ≤ n ∧ t ≤ s + 63 ∧ w.rowIs D 63 3 (nodeCell (.slice (some ⟨vb, s * 2, none⟩) (t - s) (t - s)) (.slice none 0 0) (t - s)) ∧ F = fun x => if x = 0 then [t - s] else []
  | h + 1, D, s, t, lo, F => ∃ (q K bb o : Nat) (cp cut : Nat → Nat) (Fs : Nat → Nat → List Nat), lo ≤ q ∧ q ≤ 63 ∧ t ≤ n ∧ cut 0 = s ∧ cut (q + 1) = t + 1 ∧
      w.rowIs D 63 3 (nodeCell (.slice (some ⟨bb, o * 2, none⟩) q q) (.slice (some ⟨K, 0, none⟩) (q + 1) 65) (t - s)) ∧
      w.rowIs K 37 65 (fun j => if j < q + 1 then .pointer (some ⟨cp j, 0, none⟩) else .pointer none) ∧
      (∀ j, j < q → w.cell? ⟨bb, o * 2 + j * 2, none⟩ = some (.string (S (cut (j + 1) - 1))) ∧ w.cell? ⟨bb, o * 2 + j * 2 + 1, none⟩ = some (.int .i64 1)) ∧
      (∀ j, j ≤ q → cut j < cut (j + 1) ∧ Tree w vb n S h (cp j) (cut j) (cut (j + 1) - 1) 31 (Fs j)) ∧
      F = fun x => if x = 0 then [q] else (List.range (q + 1)).flatMap (fun j => Fs j (x - 1))

theorem Tree.mono {w w' : World} {vb n : Nat} {S : Nat → ByteArray} (hb : ∀ k, k < w.heap.size → w'.heap[k]? = w.heap[k]?) :
    ∀ {h D s t lo : Nat} {F : Nat → List Nat}, Tree w vb n S h D s t lo F → Tree w' vb n S h D s t lo F := by
  intro h
  induction h with
  | zero =>
    intro D s t lo F hT
    obtain ⟨h1, h2, h3, h4, h5⟩ := hT
    exact ⟨h1, h2, h3, h4.of_block (hb _ h4.lt), h5⟩
  | succ h ih =>
    intro D s t lo F hT
    obtain ⟨q, K, bb, o, cp, cut, Fs, h1, h2, h3, h4, h5, h6, h7, h8, h9, h10⟩ := hT
    refine ⟨q, K, bb, o, cp, cut, Fs, h1, h2, h3, h4, h5, h6.of_block (hb _ h6.lt), h7.of_block (hb _ h7.lt), fun j hj => ?_, fun j hj => ⟨(h9 j hj).1, ih (h9 j hj).2⟩, h10⟩
    obtain ⟨c0, c1⟩ := h8 j hj
    exact ⟨(World.cell?_of_block (hb _ (World.block_lt_of_cell? w _ c0))).trans c0, (World.cell?_of_block (hb _ (World.block_lt_of_cell? w _ c1))).trans c1⟩

/-- A block that is no part of any tree: two cells of type 47, none a string. -/
def Apart47 (w : World) (k : Nat) : Prop := ∃ f, w.rowIs k 47 2 f ∧ ∀ x s, x < 2 → f x ≠ .string s

theorem Apart47.row {w : World} {k t m : Nat} {g : Nat → Value} (h : Apart47 w k) (hr : w.rowIs k t m g) (ht : t ≠ 47) : False := by
  obtain ⟨f, ⟨c, hc, _⟩, _⟩ := h
  obtain ⟨c', hc', _⟩ := hr
  rw [hc] at hc'
  simp only [Option.some.injEq, Obj.cells.injEq] at hc'
  exact ht hc'.2.1.symm

theorem Apart47.cell {w : World} {k x : Nat} {s : ByteArray} (h : Apart47 w k) (hc : w.cell? ⟨k, x, none⟩ = some (.string s)) : False := by
  obtain ⟨f, hr, hf⟩ := h
  by_cases hx : x < 2
  · rw [hr.cell hx] at hc
    exact hf x s hx (Option.some.inj hc)
  · obtain ⟨c, hb, hn, _⟩ := hr
    simp [World.cell?, hb, Array.getElem?_eq_none (show c.size ≤ x by omega)] at hc

/-- A tree stands while such blocks are written. -/
theorem Tree.mono47 {w w' : World} {vb n : Nat} {S : Nat → ByteArray} (hb : ∀ k, k < w.heap.size → w'.heap[k]? = w.heap[k]? ∨ Apart47 w k) :
    ∀ {h D s t lo : Nat} {F : Nat → List Nat}, Tree w vb n S h D s t lo F → Tree w' vb n S h D s t lo F := by
  have row : ∀ {k t m g}, w.rowIs k t m g → t ≠ 47 → w'.rowIs k t m g := fun {k t m g} hr ht => by
    rcases hb k hr.lt with h | h
    · exact hr.of_block h
    · exact (h.row hr ht).elim
  intro h
  induction h with
  | zero =>
    intro D s t lo F hT
    obtain ⟨h1, h2, h3, h4, h5⟩ := hT
    exact ⟨h1, h2, h3, row h4 (by decide), h5⟩
  | succ h ih =>
    intro D s t lo F hT
    obtain ⟨q, K, bb, o, cp, cut, Fs, h1, h2, h3, h4, h5, h6, h7, h8, h9, h10⟩ := hT
    refine ⟨q, K, bb, o, cp, cut, Fs, h1, h2, h3, h4, h5, row h6 (by decide), row h7 (by decide), fun j hj => ?_, fun j hj => ⟨(h9 j hj).1, ih (h9 j hj).2⟩, h10⟩
    obtain ⟨c0, c1⟩ := h8 j hj
    rcases hb bb (World.block_lt_of_cell? w _ c0) with h | h
    · exact ⟨(World.cell?_of_block h).trans c0, (World.cell?_of_block h).trans c1⟩
    · exact (h.cell c0).elim

theorem Tree.le {w : World} {vb n : Nat} {S : Nat → ByteArray} : ∀ {h D s t lo : Nat} {F : Nat → List Nat}, Tree w vb n S h D s t lo F → s ≤ t ∧ t ≤ n := by
  intro h
  cases h with
  | zero =>
    intro D s t lo F hT
    obtain ⟨h1, h2, _⟩ := hT
    omega
  | succ h =>
    intro D s t lo F hT
    obtain ⟨q, K, bb, o, cp, cut, Fs, _, _, h3, h4, h5, _, _, _, h9, _⟩ := hT
    have h01 := (h9 0 (by omega)).1
    have h02 := Tr.cut_mono (cut := cut) (c := q + 1) (fun j hj => (h9 j (by omega)).1) (show 1 ≤ q + 1 by omega) (Nat.le_refl _)
    rw [Nat.zero_add] at h01
    omega

/-- The node's own size. -/
theorem Tree.size {w : World} {vb n : Nat} {S : Nat → ByteArray} : ∀ {h D s t lo : Nat} {F : Nat → List Nat}, Tree w vb n S h D s t lo F → w.cell? ⟨D, 2, none⟩ = some (.int .i64 (t - s : Nat)) := by
  intro h
  cases h with
  | zero =>
    intro D s t lo F hT
    obtain ⟨_, _, _, h4, _⟩ := hT
    exact h4.cell (i := 2) (by omega)
  | succ h =>
    intro D s t lo F hT
    obtain ⟨q, K, bb, o, cp, cut, Fs, _, _, _, _, _, h6, _⟩ := hT
    exact h6.cell (i := 2) (by omega)

/-- No counts below the leaves. -/
theorem Tree.deep {w : World} {vb n : Nat} {S : Nat → ByteArray} : ∀ {h D s t lo : Nat} {F : Nat → List Nat}, Tree w vb n S h D s t lo F → ∀ x, h < x → F x = [] := by
  intro h
  induction h with
  | zero =>
    intro D s t lo F hT x hx
    obtain ⟨_, _, _, _, rfl⟩ := hT
    show (if x = 0 then [t - s] else []) = []
    rw [if_neg (by omega)]
  | succ h ih =>
    intro D s t lo F hT x hx
    obtain ⟨q, K, bb, o, cp, cut, Fs, _, _, _, _, _, _, _, _, h9, rfl⟩ := hT
    show (if x = 0 then [q] else (List.range (q + 1)).flatMap (fun j => Fs j (x - 1))) = []
    rw [if_neg (by omega)]
    have : ∀ j ∈ List.range (q + 1), Fs j (x - 1) = (fun _ => ([] : List Nat)) j := fun j hj => by
      have hj' := List.mem_range.1 hj
      exact ih (h9 j (by omega)).2 (x - 1) (by omega)
    rw [Tr.flatMap_congr this]
    simp

/-- ONE LEVEL OF NODES, of height h, over the whole input. -/
structure Lev (w : World) (vb n : Nat) (S : Nat → ByteArray) (h m nb bb : Nat) (cp cut : Nat → Nat) (Fs : Nat → Nat → List Nat) : Prop where
  nodes : w.rowIs nb 37 (Pk.cnt m) (fun i => .pointer (some ⟨cp i, 0, none⟩))
  betw : w.rowIs bb 43 ((Pk.cnt m - 1) * 2) (vcell (fun i => S (cut (i + 1) - 1)))
  cut0 : cut 0 = 0
  cutE : cut (Pk.cnt m) = n + 1
  tree : ∀ i, i < Pk.cnt m → cut i < cut (i + 1) ∧ Tree w vb n S h (cp i) (cut i) (cut (i + 1) - 1) (if 2 ≤ Pk.cnt m then 31 else 0) (Fs i)
  flat : ∀ x, x ≤ h → (List.range (Pk.cnt m)).flatMap (fun i => Fs i x) = Tr.counts (Tr.mm n (h - x))
  isMm : m = Tr.mm n h
  more : ∀ g, g < h → 2 ≤ Pk.cnt (Tr.mm n g)

theorem tk_lo (m i : Nat) : (if 2 ≤ Pk.cnt m then 31 else 0) ≤ Pk.tk m i := by
  split
  · exact Pk.tk_ge m i ‹_›
  · omega

/-- The leaves. -/
theorem lev_leaf {w w' : World} {vb n : Nat} {S : Nat → ByteArray} (hL : Leafs w vb n S (Pk.cnt n) w') :
    Lev w' vb n S 0 n w.heap.size (w.heap.size + 1) (fun i => w.heap.size + 2 + 3 * i) (Pk.pos n) (fun i x => if x = 0 then [Pk.tk n i] else []) := by
  refine ⟨?_, ?_, Pk.pos_zero n, Pk.pos_end n, fun i hi => ?_, fun x hx => ?_, rfl, fun g hg => by omega⟩
  · exact hL.nodes.congr (fun i hi => by rw [if_pos hi])
  · refine hL.betw.congr (fun j hj => ?_)
    rw [if_pos (by omega)]
    have : (fun i => S (Pk.pos n i + Pk.tk n i)) = fun i => S (Pk.pos n (i + 1) - 1) := by
      funext i
      rw [Pk.pos_succ, Nat.add_sub_cancel]
    rw [this]
  · have hs := Pk.pos_succ n i
    have hin := Pk.pos_in n i hi
    have h63 := Pk.tk_le n i
    have hlo := tk_lo n i
    have e : Pk.pos n (i + 1) - 1 = Pk.pos n i + Pk.tk n i := by omega
    refine ⟨by omega, ?_⟩
    rw [e]
    refine ⟨by omega, hin, by omega, ?_, ?_⟩
    · rw [Nat.add_sub_cancel_left]; exact hL.leaf i hi
    · rw [Nat.add_sub_cancel_left]
  · obtain rfl : x = 0 := by omega
    show (List.range (Pk.cnt n)).flatMap (fun i => if (0 : Nat) = 0 then [Pk.tk n i] else []) = Tr.counts (Tr.mm n 0)
    simp only [if_true]
    show _ = (List.range (Pk.cnt n)).map (Pk.tk n)
    rw [List.map_eq_flatMap]

/-- The level above a level. -/
theorem lev_upper {w w' : World} {vb n h m m' nb bb : Nat} {S : Nat → ByteArray} {cp cut : Nat → Nat} {Fs : Nat → Nat → List Nat} (hV : Lev w vb n S h m nb bb cp cut Fs) (h2 : 2 ≤ Pk.cnt m) (hm' : m' = Pk.cnt m - 1)
    (hU : Uppers w bb m' (fun i => S (cut (i + 1) - 1)) cp (fun i => cut (i + 1) - 1 - cut i) (Pk.cnt m') w') :
    Lev w' vb n S (h + 1) m' w.heap.size (w.heap.size + 1) (fun i => w.heap.size + 2 + 4 * i) (fun i => cut (Pk.pos m' i))
      (fun i x => if x = 0 then [Pk.tk m' i] else (List.range (Pk.tk m' i + 1)).flatMap (fun j => Fs (Pk.pos m' i + j) (x - 1))) := by
  have hc : Pk.cnt m = m' + 1 := by omega
  have hcut : ∀ i, i < m' + 1 → cut i < cut (i + 1) := fun i hi => (hV.tree i (by omega)).1
  refine ⟨?_, ?_, ?_, ?_, fun i hi => ?_, fun x hx => ?_, ?_, fun g hg => ?_⟩
  · exact hU.nodes.congr (fun i hi => by rw [if_pos hi])
  · refine hU.betw.congr (fun j hj => ?_)
    rw [if_pos (by omega)]
    have : (fun i => S (cut (Pk.pos m' i + Pk.tk m' i + 1) - 1)) = fun i => S (cut (Pk.pos m' (i + 1)) - 1) := by
      funext i
      rw [Pk.pos_succ]
    rw [this]
  · show cut (Pk.pos m' 0) = 0
    rw [Pk.pos_zero]; exact hV.cut0
  · show cut (Pk.pos m' (Pk.cnt m')) = n + 1
    rw [Pk.pos_end, ← hc]; exact hV.cutE
  · have hs := Pk.pos_succ m' i
    have hin := Pk.pos_in m' i hi
    have h63 := Pk.tk_le m' i
    have hlo := tk_lo m' i
    have hsum := Tr.sum_cut (cut := cut) (Pk.pos m' i) (Pk.tk m' i + 1) (fun j hj => hcut _ (by omega))
    have e : Pk.pos m' i + (Pk.tk m' i + 1) = Pk.pos m' (i + 1) := by omega
    rw [e] at hsum
    have hle := Tr.cut_mono (cut := cut) (c := m' + 1) hcut (show Pk.pos m' (i + 1) ≤ m' + 1 by omega) (Nat.le_refl _)
    rw [← hc, hV.cutE] at hle
    refine ⟨by show cut (Pk.pos m' i) < cut (Pk.pos m' (i + 1)); omega, Pk.tk m' i, w.heap.size + 2 + 4 * i + 1, bb, Pk.pos m' i, fun j => cp (Pk.pos m' i + j), fun j => cut (Pk.pos m' i + j), fun j => Fs (Pk.pos m' i + j), hlo, h63, ?_, rfl, ?_, ?_, hU.kids i hi, fun j hj => ?_, fun j hj => ?_, rfl⟩
    · show cut (Pk.pos m' (i + 1)) - 1 ≤ n; omega
    · show cut (Pk.pos m' i + (Pk.tk m' i + 1)) = cut (Pk.pos m' (i + 1)) - 1 + 1
      rw [e]; omega
    · have hn := hU.node i hi
      have ez : Pk.tk m' i + Pk.sumTo (fun i => cut (i + 1) - 1 - cut i) (Pk.pos m' i) (Pk.tk m' i + 1) = cut (Pk.pos m' (i + 1)) - 1 - cut (Pk.pos m' i) := by omega
      rw [ez] at hn
      exact hn
    · have hl := hV.betw.lt
      have hbm : Pk.cnt m - 1 = m' := by omega
      have hbr := hV.betw
      rw [hbm] at hbr
      refine ⟨?_, ?_⟩
      · rw [hU.below.cell (p := ⟨bb, Pk.pos m' i * 2 + j * 2, none⟩) hl, hbr.cell (by omega), ← Nat.add_mul, vcell_even, Nat.add_assoc]
      · rw [hU.below.cell (p := ⟨bb, Pk.pos m' i * 2 + j * 2 + 1, none⟩) hl, hbr.cell (by omega), ← Nat.add_mul, vcell_odd]
    · obtain ⟨h1, hT⟩ := hV.tree (Pk.pos m' i + j) (by omega)
      rw [if_pos h2] at hT
      refine ⟨h1, ?_⟩
      exact hT.mono (fun k hk => hU.below.block k hk)
  · by_cases hx0 : x = 0
    · subst hx0
      simp only [if_true]
      have em : Tr.mm n (h + 1 - 0) = m' := by show Pk.cnt (Tr.mm n h) - 1 = m'; rw [← hV.isMm]; exact hm'.symm
      rw [em]
      show _ = (List.range (Pk.cnt m')).map (Pk.tk m')
      rw [List.map_eq_flatMap]
    · simp only [hx0, if_false]
      rw [Tr.flat_kids m' (fun i => Fs i (x - 1)) (Pk.cnt m'), Pk.pos_end, ← hc, hV.flat (x - 1) (by omega)]
      have : h - (x - 1) = h + 1 - x := by omega
      rw [this]
  · show m' = Pk.cnt (Tr.mm n h) - 1
    rw [← hV.isMm]; exact hm'
  · by_cases e : g = h
    · subst e; rw [← hV.isMm]; exact h2
    · exact hV.more g (by omega)

end Go.Proofs.Qxb6600858a
