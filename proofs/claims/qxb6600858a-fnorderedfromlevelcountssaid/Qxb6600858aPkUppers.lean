/-
  What holds at the head of each round of packLevel's loop over children, and inside a round; what each step does to it.
-/
import Derived.Test.Qxb6600858aPkLeafs
namespace Go.Proofs.Qxb6600858a
open Go.RowKit
set_option linter.unusedVariables false

/-! ### A row filled from its head -/
theorem setCells_block (b : Nat) : ∀ (vs : List Value) (o : Nat) (w : World) (k : Nat), k ≠ b → (w.setCells b o vs).heap[k]? = w.heap[k]?
  | [], _, _, _, _ => rfl
  | v :: r, o, w, k, h => (setCells_block b r (o + 1) _ k h).trans (Below.heap_setCell _ _ _ _ h)
theorem setCells_size (b : Nat) : ∀ (vs : List Value) (o : Nat) (w : World), (w.setCells b o vs).heap.size = w.heap.size
  | [], _, _ => rfl
  | v :: r, o, w => (setCells_size b r (o + 1) _).trans (nb_setCell _ _ _)
theorem setCells_below {B b : Nat} {a : World} (hb : B ≤ b) : ∀ (vs : List Value) (o : Nat) (w : World), Below B a w → Below B a (w.setCells b o vs)
  | [], _, _, h => h
  | v :: r, o, w, h => setCells_below hb r (o + 1) _ (h.setCell hb _)
theorem rowIs_fill {b : Nat} {t : TypeId} {n : Nat} : ∀ (vs : List Value) (o : Nat) (w : World) (f : Nat → Value), w.rowIs b t n f →
    (w.setCells b o vs).rowIs b t n (fun j => if o ≤ j ∧ j < o + vs.length then vs.getD (j - o) undef else f j)
  | [], o, w, f, h => h.congr (fun j _ => by rw [if_neg (by simp)])
  | v :: r, o, w, f, h => (rowIs_fill r (o + 1) _ _ (h.set o v)).congr (fun j hj => by
      by_cases e : j = o
      · subst e
        rw [if_neg (by omega), if_pos rfl, if_pos (by simp)]
        simp
      · by_cases h2 : o + 1 ≤ j ∧ j < o + 1 + r.length
        · rw [if_pos h2, if_pos (by simp; omega)]
          obtain ⟨d, rfl⟩ : ∃ d, j = o + 1 + d := ⟨j - (o + 1), by omega⟩
          rw [show o + 1 + d - (o + 1) = d by omega, show o + 1 + d - o = d + 1 by omega]
          simp
        · rw [if_neg h2, if_neg e, if_neg (by simp; omega)])

/-- The children that a node takes, as cells. -/
def kidsOf (cp : Nat → Nat) (p u : Nat) : List Value := (List.range u).map (fun j => .pointer (some ⟨cp (p + j), 0, none⟩))
theorem kidsOf_length (cp : Nat → Nat) (p u : Nat) : (kidsOf cp p u).length = u := by simp [kidsOf]
theorem kidsOf_getD (cp : Nat → Nat) (p u j : Nat) (h : j < u) (d : Value) : (kidsOf cp p u).getD j d = .pointer (some ⟨cp (p + j), 0, none⟩) := by
  simp [kidsOf, List.getD, h]
theorem kidsOf_at (cp : Nat → Nat) (p u j : Nat) (v : Value) (h : (kidsOf cp p u)[j]? = some v) : j < u ∧ v = .pointer (some ⟨cp (p + j), 0, none⟩) := by
  have hj : j < u := by
    have := (List.getElem?_eq_some_iff.1 h).1
    simpa [kidsOf_length] using this
  refine ⟨hj, ?_⟩
  simp [kidsOf, hj] at h
  exact h.symm
theorem kidsOf_one (cp : Nat → Nat) (p u : Nat) : ∀ v ∈ kidsOf cp p u, v.oneCell' = true := by
  intro v hv
  obtain ⟨j, _, rfl⟩ := List.mem_map.1 hv
  rfl

/-- What holds at the head of round k of the loop over children. -/
structure Uppers (w : World) (vb m : Nat) (S : Nat → ByteArray) (cp sz : Nat → Nat) (k : Nat) (wr : World) : Prop where
  size : k < Pk.cnt m → wr.heap.size = w.heap.size + 2 + 4 * k
  nodes : wr.rowIs w.heap.size 37 (Pk.cnt m) (fun i => if i < k then .pointer (some ⟨w.heap.size + 2 + 4 * i, 0, none⟩) else .pointer none)
  betw : wr.rowIs (w.heap.size + 1) 43 ((Pk.cnt m - 1) * 2) (fun j => if j < k * 2 then vcell (fun i => S (Pk.pos m i + Pk.tk m i)) j else zcell j)
  node : ∀ i, i < k → wr.rowIs (w.heap.size + 2 + 4 * i) 63 3 (nodeCell (.slice (some ⟨vb, Pk.pos m i * 2, none⟩) (Pk.tk m i) (Pk.tk m i)) (.slice (some ⟨w.heap.size + 2 + 4 * i + 1, 0, none⟩) (Pk.tk m i + 1) 65) (Pk.tk m i + Pk.sumTo sz (Pk.pos m i) (Pk.tk m i + 1)))
  kids : ∀ i, i < k → wr.rowIs (w.heap.size + 2 + 4 * i + 1) 37 65 (fun j => if j < Pk.tk m i + 1 then .pointer (some ⟨cp (Pk.pos m i + j), 0, none⟩) else .pointer none)
  below : Below w.heap.size w wr

/-- What holds inside a round, once the node has its children and j of their sizes are added. -/
structure Mid (w wr : World) (vb p t u N : Nat) (cp sz : Nat → Nat) (j : Nat) (w3 : World) : Prop where
  size : w3.heap.size = N + 2
  block : ∀ x, x < N → w3.heap[x]? = wr.heap[x]?
  below : Below w.heap.size w w3
  node : w3.rowIs N 63 3 (nodeCell (.slice (some ⟨vb, p * 2, none⟩) t t) (.slice (some ⟨N + 1, 0, none⟩) u 65) (t + Pk.sumTo sz p j))
  kids : w3.rowIs (N + 1) 37 65 (fun i => if i < u then .pointer (some ⟨cp (p + i), 0, none⟩) else .pointer none)

theorem Mid.drew {w wr w3 : World} {vb p t u N j : Nat} {cp sz : Nat → Nat} (h : Mid w wr vb p t u N cp sz j w3) : Mid w wr vb p t u N cp sz j w3.drew :=
  ⟨h.size, h.block, h.below.drew, h.node, h.kids⟩

theorem Mid.step {w wr w3 : World} {vb p t u N j x : Nat} {cp sz : Nat → Nat} (h : Mid w wr vb p t u N cp sz j w3) (hN : w.heap.size ≤ N) (hx : x = t + Pk.sumTo sz p j + sz (p + j)) :
    Mid w wr vb p t u N cp sz (j + 1) (w3.setCell ⟨N, 2, none⟩ (.int .i64 (x : Nat))) := by
  refine ⟨by rw [nb_setCell]; exact h.size, fun y hy => ?_, h.below.setCell (by exact hN) _, ?_, h.kids.setOther (by show N + 1 ≠ N; omega) _⟩
  · rw [Below.heap_setCell _ _ _ _ (by show y ≠ N; omega)]; exact h.block y hy
  · refine (h.node.set 2 _).congr (fun i hi => ?_)
    match i, hi with
    | 0, _ => rfl
    | 1, _ => rfl
    | 2, _ => simp [nodeCell, hx, Pk.sumTo, Nat.add_assoc]

/-- The node and its children, just made. -/
theorem Mid.start {w wr : World} {vb p t u N : Nat} {cp sz : Nat → Nat} (hN : wr.heap.size = N) (hle : w.heap.size ≤ N) (hb : Below w.heap.size w wr) (hu : u ≤ 65) :
    Mid w wr vb p t u N cp sz 0
      (((((wr.alloc (.cells #[.slice (some ⟨vb, p * 2, none⟩) t t, .slice none 0 0, .int .i64 t] 63)).alloc (.cells (nilPtrs 65) 37)).drew).setCells (N + 1) 0 (kidsOf cp p u)).setCell ⟨N, 1, none⟩ (.slice (some ⟨N + 1, 0, none⟩) u 65)) := by
  have hsz : (((wr.alloc (.cells #[.slice (some ⟨vb, p * 2, none⟩) t t, .slice none 0 0, .int .i64 t] 63)).alloc (.cells (nilPtrs 65) 37)).drew).heap.size = N + 2 := by
    show (((wr.alloc _).alloc _)).heap.size = _
    rw [nb_alloc, nb_alloc, hN]
  refine ⟨?_, fun x hx => ?_, ?_, ?_, ?_⟩
  · rw [nb_setCell, setCells_size, hsz]
  · rw [Below.heap_setCell _ _ _ _ (by show x ≠ N; omega), setCells_block _ _ _ _ _ (by omega)]
    show (((wr.alloc _).alloc _)).heap[x]? = _
    rw [Below.heap_alloc _ _ _ (by rw [nb_alloc]; omega), Below.heap_alloc _ _ _ (by omega)]
  · refine (setCells_below (by omega) _ _ _ ?_).setCell (by exact hle) _
    exact ((hb.alloc (by omega) _).alloc (by rw [nb_alloc]; omega) _).drew
  · have h0 : (((wr.alloc (.cells #[.slice (some ⟨vb, p * 2, none⟩) t t, .slice none 0 0, .int .i64 t] 63)).alloc (.cells (nilPtrs 65) 37)).drew).rowIs N 63 3 (nodeCell (.slice (some ⟨vb, p * 2, none⟩) t t) (.slice none 0 0) t) :=
      ((rowIs_new3 hN (by simp [nodeCell]) (by simp [nodeCell]) (by simp [nodeCell])).alloc _).drew
    refine ((h0.of_block (setCells_block _ _ _ _ _ (by omega))).set 1 _).congr (fun i hi => ?_)
    match i, hi with
    | 0, _ => rfl
    | 1, _ => rfl
    | 2, _ => simp [nodeCell, Pk.sumTo]
  · have h0 : (((wr.alloc (.cells #[.slice (some ⟨vb, p * 2, none⟩) t t, .slice none 0 0, .int .i64 t] 63)).alloc (.cells (nilPtrs 65) 37)).drew).rowIs (N + 1) 37 65 (fun _ => .pointer none) := by
      have := World.rowIs_made (wr.alloc (.cells #[.slice (some ⟨vb, p * 2, none⟩) t t, .slice none 0 0, .int .i64 t] 63)) (.pointer none) 65 37
      rw [nb_alloc, hN] at this
      exact this.drew
    refine ((rowIs_fill (kidsOf cp p u) 0 _ _ h0).setOther (by show N + 1 ≠ N; omega) _).congr (fun i hi => ?_)
    rw [kidsOf_length]
    by_cases e : i < u
    · rw [if_pos (by omega), if_pos e, Nat.sub_zero, kidsOf_getD _ _ _ _ e]
    · rw [if_neg (by omega), if_neg e]

/-- A round that is not the last. -/
theorem uppers_more {w wr w3 : World} {vb m k p t u N : Nat} {S : Nat → ByteArray} {cp sz : Nat → Nat} (hL : Uppers w vb m S cp sz k wr) (hM : Mid w wr vb p t u N cp sz u w3) (hk : k + 1 < Pk.cnt m)
    (hN : wr.heap.size = N) (hp : p = Pk.pos m k) (ht : t = Pk.tk m k) (hu : u = t + 1) :
    Uppers w vb m S cp sz (k + 1)
      (((((w3.setCell ⟨w.heap.size, k, none⟩ (.pointer (some ⟨N, 0, none⟩))).setCell ⟨w.heap.size + 1, k * 2, none⟩ (.string (S (p + t)))).setCell ⟨w.heap.size + 1, k * 2 + 1, none⟩ (.int .i64 1)).alloc
        (.cells #[.pointer (some ⟨N, 0, none⟩)] 37)).alloc (.cells #[.string (S (p + t)), .int .i64 1] 43)) := by
  have hz := hL.size (by omega)
  rw [hN] at hz
  have ho := hM.size
  refine ⟨fun _ => ?_, ?_, ?_, ?_, ?_, ?_⟩
  · simp only [nb_alloc, nb_setCell]; omega
  · refine ((((((hL.nodes.of_block (hM.block _ (by omega))).set k _).setOther (by show w.heap.size ≠ w.heap.size + 1; omega) _).setOther (by show w.heap.size ≠ w.heap.size + 1; omega) _).alloc _).alloc _).congr (fun i hi => ?_)
    by_cases e : i = k
    · subst e; simp [hz]
    · simp only [e, if_false]
      by_cases h : i < k
      · rw [if_pos h, if_pos (by omega)]
      · rw [if_neg h, if_neg (by omega)]
  · refine ((((((hL.betw.of_block (hM.block _ (by omega))).setOther (by show w.heap.size + 1 ≠ w.heap.size; omega) _).set (k * 2) _).set (k * 2 + 1) _).alloc _).alloc _).congr (fun j hj => ?_)
    have := vals_step (fun i => S (Pk.pos m i + Pk.tk m i)) (S (p + t)) k j
    rw [vcell_same (S := fun i => S (Pk.pos m i + Pk.tk m i)) (by rw [hp, ht])] at this
    exact this
  · intro i hi
    by_cases e : i = k
    · subst e
      rw [← hz, ← ht, ← hp, ← hu]
      exact ((((hM.node.setOther (by show N ≠ w.heap.size; omega) _).setOther (by show N ≠ w.heap.size + 1; omega) _).setOther (by show N ≠ w.heap.size + 1; omega) _).alloc _).alloc _
    · exact (((((( hL.node i (by omega)).of_block (hM.block _ (by omega))).setOther (by show _ ≠ w.heap.size; omega) _).setOther (by show _ ≠ w.heap.size + 1; omega) _).setOther (by show _ ≠ w.heap.size + 1; omega) _).alloc _).alloc _
  · intro i hi
    by_cases e : i = k
    · subst e
      rw [← hz, ← ht, ← hp, ← hu]
      exact ((((hM.kids.setOther (by show N + 1 ≠ w.heap.size; omega) _).setOther (by show N + 1 ≠ w.heap.size + 1; omega) _).setOther (by show N + 1 ≠ w.heap.size + 1; omega) _).alloc _).alloc _
    · exact (((((( hL.kids i (by omega)).of_block (hM.block _ (by omega))).setOther (by show _ ≠ w.heap.size; omega) _).setOther (by show _ ≠ w.heap.size + 1; omega) _).setOther (by show _ ≠ w.heap.size + 1; omega) _).alloc _).alloc _
  · refine ((((hM.below.setCell (Nat.le_refl _) _).setCell (by show w.heap.size ≤ w.heap.size + 1; omega) _).setCell (by show w.heap.size ≤ w.heap.size + 1; omega) _).alloc ?_ _).alloc ?_ _
    all_goals simp only [nb_alloc, nb_setCell]; omega

/-- The last round. -/
theorem uppers_last {w wr w3 : World} {vb m k p t u N : Nat} {S : Nat → ByteArray} {cp sz : Nat → Nat} (hL : Uppers w vb m S cp sz k wr) (hM : Mid w wr vb p t u N cp sz u w3) (hk : k + 1 = Pk.cnt m)
    (hN : wr.heap.size = N) (hp : p = Pk.pos m k) (ht : t = Pk.tk m k) (hu : u = t + 1) :
    Uppers w vb m S cp sz (k + 1) ((w3.setCell ⟨w.heap.size, k, none⟩ (.pointer (some ⟨N, 0, none⟩))).alloc (.cells #[.pointer (some ⟨N, 0, none⟩)] 37)) := by
  have hz := hL.size (by omega)
  rw [hN] at hz
  have ho := hM.size
  refine ⟨fun h => by omega, ?_, ?_, ?_, ?_, ?_⟩
  · refine (((hL.nodes.of_block (hM.block _ (by omega))).set k _).alloc _).congr (fun i hi => ?_)
    by_cases e : i = k
    · subst e; simp [hz]
    · simp only [e, if_false]
      by_cases h : i < k
      · rw [if_pos h, if_pos (by omega)]
      · rw [if_neg h, if_neg (by omega)]
  · refine (((hL.betw.of_block (hM.block _ (by omega))).setOther (by show w.heap.size + 1 ≠ w.heap.size; omega) _).alloc _).congr (fun j hj => ?_)
    rw [if_pos (show j < k * 2 by omega), if_pos (show j < (k + 1) * 2 by omega)]
  · intro i hi
    by_cases e : i = k
    · subst e
      rw [← hz, ← ht, ← hp, ← hu]
      exact (hM.node.setOther (by show N ≠ w.heap.size; omega) _).alloc _
    · exact (((hL.node i (by omega)).of_block (hM.block _ (by omega))).setOther (by show _ ≠ w.heap.size; omega) _).alloc _
  · intro i hi
    by_cases e : i = k
    · subst e
      rw [← hz, ← ht, ← hp, ← hu]
      exact (hM.kids.setOther (by show N + 1 ≠ w.heap.size; omega) _).alloc _
    · exact (((hL.kids i (by omega)).of_block (hM.block _ (by omega))).setOther (by show _ ≠ w.heap.size; omega) _).alloc _
  · refine (hM.below.setCell (Nat.le_refl _) _).alloc ?_ _
    simp only [nb_setCell]; omega

theorem uppers_start (w : World) (vb m : Nat) (S : Nat → ByteArray) (cp sz : Nat → Nat) : Uppers w vb m S cp sz 0 ((w.alloc (.cells (nilPtrs (Pk.cnt m)) 37)).alloc (.cells (zeroVals (Pk.cnt m - 1)) 43)) := by
  have h := leafs_start w vb m S
  refine ⟨fun hc => (h.size hc).trans (by omega), h.nodes.congr (fun i _ => by simp), h.betw, fun i hi => by omega, fun i hi => by omega, h.below⟩

end Go.Proofs.Qxb6600858a
