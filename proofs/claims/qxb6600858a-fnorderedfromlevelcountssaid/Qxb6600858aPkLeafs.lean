/-
  What holds at the head of each round of packLevel's loop over no children; what a round does to it.
-/
import Derived.Test.Qxb6600858aPkVals
import Derived.Test.Qxb6600858aPkPlain
namespace Go.Proofs.Qxb6600858a
open Go.RowKit

def nodeCell (v c : Value) (s : Nat) (j : Nat) : Value := if j = 0 then v else if j = 1 then c else .int .i64 s

theorem Try.info37 : (Try.prog.info? 37).map (fun i => (i.zero, i.size, i.bytes)) = some (some (.pointer none), 1, 8) := by kernel_rfl

def nilPtrs (n : Nat) : Array Value := madeCells #[.pointer none] n

theorem make_ptrs (n : Nat) (hn : n ≤ 65537) (w : World) :
    (Instr.makeSlice 32 (.int .i64 0) (.int .i64 (n : Int))).run Try.prog w = .ok (.slice (some ⟨w.heap.size, 0, none⟩) 0 n) (w.alloc (.cells (nilPtrs n) 37)) := by
  obtain ⟨i, hi, hz0, hz1, hz2⟩ := info_parts Try.info37
  have := run_make (P := Try.prog) w 32 37 i _ Try.underlying32 hi hz0 .i64 .i64 0 n (by omega) (by omega) (by rw [hz2]; omega) (by omega)
  rw [this, hz1]
  simp [nilPtrs, Value.cells]

theorem make_vals0 (n : Nat) (hn : n ≤ 65536) (w : World) :
    (Instr.makeSlice 30 (.int .i64 0) (.int .i64 (n : Int))).run Try.prog w = .ok (.slice (some ⟨w.heap.size, 0, none⟩) 0 n) (w.alloc (.cells (zeroVals n) 43)) := by
  obtain ⟨i, hi, hz0, hz1, hz2⟩ := info_parts Try.info43
  have := run_make (P := Try.prog) w 30 43 i _ Try.underlying30 hi hz0 .i64 .i64 0 n (by omega) (by omega) (by rw [hz2]; omega) (by omega)
  rw [this, hz1]
  simp [zeroVals, Value.cells]

/-- What holds at the head of round k of the leaves' loop. -/
structure Leafs (w : World) (vb m : Nat) (S : Nat → ByteArray) (k : Nat) (wr : World) : Prop where
  size : k < Pk.cnt m → wr.heap.size = w.heap.size + 2 + 3 * k
  nodes : wr.rowIs w.heap.size 37 (Pk.cnt m) (fun i => if i < k then .pointer (some ⟨w.heap.size + 2 + 3 * i, 0, none⟩) else .pointer none)
  betw : wr.rowIs (w.heap.size + 1) 43 ((Pk.cnt m - 1) * 2) (fun j => if j < k * 2 then vcell (fun i => S (Pk.pos m i + Pk.tk m i)) j else zcell j)
  leaf : ∀ i, i < k → wr.rowIs (w.heap.size + 2 + 3 * i) 63 3 (nodeCell (.slice (some ⟨vb, Pk.pos m i * 2, none⟩) (Pk.tk m i) (Pk.tk m i)) (.slice none 0 0) (Pk.tk m i))
  below : Below w.heap.size w wr

theorem nb_setCell (w : World) (a : Addr) (v : Value) : (w.setCell a v).heap.size = w.heap.size := by simp [World.setCell]
theorem nb_alloc (w : World) (o : Obj) : (w.alloc o).heap.size = w.heap.size + 1 := by simp

/-- A new block of three cells. -/
theorem rowIs_new3 {w : World} {a b c : Value} {t : TypeId} {f : Nat → Value} {n : Nat} (hn : w.heap.size = n) (h0 : f 0 = a) (h1 : f 1 = b) (h2 : f 2 = c) : (w.alloc (.cells #[a, b, c] t)).rowIs n t 3 f := by
  subst hn
  refine World.rowIs_alloc w #[a, b, c] t f (fun i hi => ?_)
  match i, hi with
  | 0, _ => simp [h0]
  | 1, _ => simp [h1]
  | 2, _ => simp [h2]

theorem vcell_same {S : Nat → ByteArray} {k : Nat} {s : ByteArray} (h : S k = s) : (fun i => if i = k then s else S i) = S := by
  funext i
  by_cases e : i = k
  · simp [e, h]
  · simp [e]

/-- Every leaf's cells, unhurt by stores into the two rows. -/
theorem leafs_more {w wr : World} {vb m k p t : Nat} {S : Nat → ByteArray} (hL : Leafs w vb m S k wr) (hk : k + 1 < Pk.cnt m) (hp : p = Pk.pos m k) (ht : t = Pk.tk m k) :
    Leafs w vb m S (k + 1)
      ((((((wr.setCell ⟨w.heap.size, k, none⟩ (.pointer (some ⟨wr.heap.size, 0, none⟩))).setCell ⟨w.heap.size + 1, k * 2, none⟩ (.string (S (p + t)))).setCell ⟨w.heap.size + 1, k * 2 + 1, none⟩ (.int .i64 1)).alloc
        (.cells #[.slice (some ⟨vb, p * 2, none⟩) t t, .slice none 0 0, .int .i64 t] 63)).alloc (.cells #[.pointer (some ⟨wr.heap.size, 0, none⟩)] 37)).alloc (.cells #[.string (S (p + t)), .int .i64 1] 43)) := by
  have hz := hL.size (by omega)
  refine ⟨fun _ => ?_, ?_, ?_, ?_, ?_⟩
  · simp only [nb_alloc, nb_setCell]; omega
  · refine ((((((hL.nodes.set k _).setOther (by show w.heap.size ≠ w.heap.size + 1; omega) _).setOther (by show w.heap.size ≠ w.heap.size + 1; omega) _).alloc _).alloc _).alloc _).congr (fun i hi => ?_)
    by_cases e : i = k
    · subst e; simp [hz]
    · simp only [e, if_false]
      by_cases h : i < k
      · rw [if_pos h, if_pos (by omega)]
      · rw [if_neg h, if_neg (by omega)]
  · refine ((((((hL.betw.setOther (by show w.heap.size + 1 ≠ w.heap.size; omega) _).set (k * 2) _).set (k * 2 + 1) _).alloc _).alloc _).alloc _).congr (fun j hj => ?_)
    have := vals_step (fun i => S (Pk.pos m i + Pk.tk m i)) (S (p + t)) k j
    rw [vcell_same (S := fun i => S (Pk.pos m i + Pk.tk m i)) (by rw [hp, ht])] at this
    exact this
  · intro i hi
    by_cases e : i = k
    · subst e
      exact ((rowIs_new3 (by simp only [nb_setCell]; exact hz) (by simp [nodeCell, hp, ht]) (by simp [nodeCell]) (by simp [nodeCell, ht])).alloc _).alloc _
    · exact ((((((hL.leaf i (by omega)).setOther (by show _ ≠ w.heap.size; omega) _).setOther (by show _ ≠ w.heap.size + 1; omega) _).setOther (by show _ ≠ w.heap.size + 1; omega) _).alloc _).alloc _).alloc _
  · refine (((((hL.below.setCell (Nat.le_refl _) _).setCell (by show w.heap.size ≤ w.heap.size + 1; omega) _).setCell (by show w.heap.size ≤ w.heap.size + 1; omega) _).alloc ?_ _).alloc ?_ _).alloc ?_ _
    all_goals simp only [nb_alloc, nb_setCell]; omega

theorem leafs_last {w wr : World} {vb m k p t : Nat} {S : Nat → ByteArray} (hL : Leafs w vb m S k wr) (hk : k + 1 = Pk.cnt m) (hp : p = Pk.pos m k) (ht : t = Pk.tk m k) :
    Leafs w vb m S (k + 1)
      (((wr.setCell ⟨w.heap.size, k, none⟩ (.pointer (some ⟨wr.heap.size, 0, none⟩))).alloc
        (.cells #[.slice (some ⟨vb, p * 2, none⟩) t t, .slice none 0 0, .int .i64 t] 63)).alloc (.cells #[.pointer (some ⟨wr.heap.size, 0, none⟩)] 37)) := by
  have hz := hL.size (by omega)
  refine ⟨fun h => by omega, ?_, ?_, ?_, ?_⟩
  · refine (((hL.nodes.set k _).alloc _).alloc _).congr (fun i hi => ?_)
    by_cases e : i = k
    · subst e; simp [hz]
    · simp only [e, if_false]
      by_cases h : i < k
      · rw [if_pos h, if_pos (by omega)]
      · rw [if_neg h, if_neg (by omega)]
  · refine (((hL.betw.setOther (by show w.heap.size + 1 ≠ w.heap.size; omega) _).alloc _).alloc _).congr (fun j hj => ?_)
    rw [if_pos (show j < k * 2 by omega), if_pos (show j < (k + 1) * 2 by omega)]
  · intro i hi
    by_cases e : i = k
    · subst e
      exact (rowIs_new3 (by simp only [nb_setCell]; exact hz) (by simp [nodeCell, hp, ht]) (by simp [nodeCell]) (by simp [nodeCell, ht])).alloc _
    · exact (((hL.leaf i (by omega)).setOther (by show _ ≠ w.heap.size; omega) _).alloc _).alloc _
  · refine ((hL.below.setCell (Nat.le_refl _) _).alloc ?_ _).alloc ?_ _
    all_goals simp only [nb_alloc, nb_setCell]; omega

theorem leafs_start (w : World) (vb m : Nat) (S : Nat → ByteArray) : Leafs w vb m S 0 ((w.alloc (.cells (nilPtrs (Pk.cnt m)) 37)).alloc (.cells (zeroVals (Pk.cnt m - 1)) 43)) := by
  refine ⟨fun _ => by simp, ?_, ?_, fun i hi => by omega, ((Below.refl _ _).alloc (Nat.le_refl _) _).alloc (by simp) _⟩
  · exact ((World.rowIs_made w (.pointer none) (Pk.cnt m) 37).alloc _).congr (fun i _ => by simp)
  · have := World.rowIs_alloc (w.alloc (.cells (nilPtrs (Pk.cnt m)) 37)) (zeroVals (Pk.cnt m - 1)) 43 zcell (fun i hi => zeroVals_at _ i (by rwa [zeroVals_size] at hi))
    rw [zeroVals_size] at this
    simp only [nb_alloc] at this
    exact this.congr (fun i _ => by simp)

end Go.Proofs.Qxb6600858a
