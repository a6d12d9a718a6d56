/-
  THE STATE OF zzWalkTree IN MEMORY: the struct, and the counts by depth: a slice of slices that grows by append.
-/
import Derived.Test.Qxb6600858aTrMem
import Derived.Deep.AppendLies
namespace Go.Proofs.Qxb6600858a
open Go.RowKit

/-- The counts by depth: 'len' rows, row i holding C i, each in a block of its own from 'base' on. -/
def Lvls (w : World) (base : Nat) (lv : Value) (len : Nat) (C : Nat → List Nat) : Prop := ∃ xs : Nat → Value,
  w.ownsRow base 36 1 lv len ((List.range len).map xs) ∧
  (∀ i, i < len → w.ownsRow base 3 1 (xs i) (C i).length ((C i).map fun c => Value.int .i64 (c : Nat))) ∧
  (∀ i j, i < len → j < len → i ≠ j → (xs i).ownBlock = none ∨ (xs i).ownBlock ≠ (xs j).ownBlock)

/-- Two rows of different element types lie in different blocks. -/
theorem own_ne {w : World} {base n m : Nat} {e e' : TypeId} {sz sz' : Nat} {v v' : Value} {xs ys : List Value} (h : w.ownsRow base e sz v n xs) (h' : w.ownsRow base e' sz' v' m ys) (he : e ≠ e') :
    v.ownBlock = none ∨ v.ownBlock ≠ v'.ownBlock := by
  rcases h.2 with ⟨rfl, _⟩ | ⟨g, cap, cur, rfl, _, hg, _⟩
  · exact .inl rfl
  · right
    rcases h'.2 with ⟨rfl, _⟩ | ⟨g', cap', cur', rfl, _, hg', _⟩
    · simp [Value.ownBlock]
    · intro e
      simp only [Value.ownBlock, Option.some.injEq] at e
      subst e
      rw [hg] at hg'
      simp only [Option.some.injEq, Obj.cells.injEq] at hg'
      exact he hg'.2.1

/-- A row is owned as long as its block stands. -/
theorem own_of_block {w w' : World} {base n : Nat} {e : TypeId} {sz : Nat} {v : Value} {xs : List Value} (h : w.ownsRow base e sz v n xs) (hb : ∀ k, v.ownBlock = some k → w'.heap[k]? = w.heap[k]?) : w'.ownsRow base e sz v n xs := by
  refine ⟨h.1, ?_⟩
  rcases h.2 with hn | ⟨g, cap, cur, rfl, hbg, hg, r⟩
  · exact .inl hn
  · exact .inr ⟨g, cap, cur, rfl, hbg, (hb g rfl).trans hg, r⟩

theorem Lvls.of_blocks {w w' : World} {base : Nat} {lv : Value} {len : Nat} {C : Nat → List Nat} (h : Lvls w base lv len C) (hb : ∀ k, base ≤ k → k < w.heap.size → w'.heap[k]? = w.heap[k]?) : Lvls w' base lv len C := by
  obtain ⟨xs, h1, h2, h3⟩ := h
  refine ⟨xs, own_of_block h1 (fun k hk => ?_), fun i hi => own_of_block (h2 i hi) (fun k hk => ?_), h3⟩
  · obtain ⟨a, b⟩ := h1.lt k hk; exact hb k a b
  · obtain ⟨a, b⟩ := (h2 i hi).lt k hk; exact hb k a b

theorem Lvls.form {w : World} {base : Nat} {lv : Value} {len : Nat} {C : Nat → List Nat} (h : Lvls w base lv len C) : ∃ a c, lv = .slice a len c := by
  obtain ⟨xs, h1, _⟩ := h
  rcases h1.2 with ⟨rfl, rfl⟩ | ⟨g, cap, cur, rfl, _⟩
  · exact ⟨none, 0, rfl⟩
  · exact ⟨_, cap, rfl⟩

/-- No rows yet. -/
theorem Lvls.nil (w : World) (base : Nat) (C : Nat → List Nat) : Lvls w base (.slice none 0 0) 0 C :=
  ⟨fun _ => .slice none 0 0, World.ownsRow_nil w base 36 1, fun i hi => by omega, fun i j hi => by omega⟩

/-- A new empty row. -/
theorem Lvls.push {w w1 : World} {base : Nat} {lv lv' : Value} {len : Nat} {C : Nat → List Nat} {xs : Nat → Value} (h1 : w.ownsRow base 36 1 lv len ((List.range len).map xs))
    (h2 : ∀ i, i < len → w.ownsRow base 3 1 (xs i) (C i).length ((C i).map fun c => Value.int .i64 (c : Nat)))
    (h3 : ∀ i j, i < len → j < len → i ≠ j → (xs i).ownBlock = none ∨ (xs i).ownBlock ≠ (xs j).ownBlock)
    (hown : w1.ownsRow base 36 1 lv' (len + 1) ((List.range len).map xs ++ [.slice none 0 0])) (hg : w.grownBy w1 lv.ownBlock) (hC : C len = []) :
    Lvls w1 base lv' (len + 1) C := by
  refine ⟨fun i => if i = len then .slice none 0 0 else xs i, ?_, fun i hi => ?_, fun i j hi hj hij => ?_⟩
  · have e : (List.range (len + 1)).map (fun i => if i = len then Value.slice none 0 0 else xs i) = (List.range len).map xs ++ [.slice none 0 0] := by
      rw [List.range_succ, List.map_append]
      congr 1
      · refine List.map_congr_left (fun i hi => ?_)
        have := List.mem_range.1 hi
        rw [if_neg (by omega)]
      · simp
    rw [e]; exact hown
  · by_cases e : i = len
    · subst e
      simp only [if_true, hC]
      exact World.ownsRow_nil w1 base 3 1
    · simp only [e, if_false]
      exact (h2 i (by omega)).kept hg (own_ne (h2 i (by omega)) h1 (by decide))
  · by_cases e : i = len
    · subst e; simp [Value.ownBlock]
    · simp only [e, if_false]
      by_cases e2 : j = len
      · subst e2
        simp only [if_true]
        cases hx : (xs i).ownBlock with
        | none => exact .inl rfl
        | some g => right; simp [Value.ownBlock]
      · simp only [e2, if_false]
        exact h3 i j (by omega) (by omega) hij

/-- One count more in row d. -/
theorem Lvls.add {w w1 : World} {base g cap d c H : Nat} {len : Nat} {C : Nat → List Nat} {xs : Nat → Value} {v' : Value}
    (h1 : w.ownsRow base 36 1 (.slice (some ⟨g, 0, none⟩) len cap) len ((List.range len).map xs))
    (h2 : ∀ i, i < len → w.ownsRow base 3 1 (xs i) (C i).length ((C i).map fun c => Value.int .i64 (c : Nat)))
    (h3 : ∀ i j, i < len → j < len → i ≠ j → (xs i).ownBlock = none ∨ (xs i).ownBlock ≠ (xs j).ownBlock)
    (hd : d < len) (hown : w1.ownsRow base 3 1 v' ((C d).length + 1) ((C d).map (fun c => Value.int .i64 (c : Nat)) ++ [.int .i64 (c : Nat)])) (hg : w.grownBy w1 (xs d).ownBlock)
    (hat : v'.ownBlock = (xs d).ownBlock ∨ v'.ownBlock = some H) (hH : w.heap.size = H) :
    Lvls (w1.setCell ⟨g, d, none⟩ v') base (.slice (some ⟨g, 0, none⟩) len cap) len (fun i => if i = d then C d ++ [c] else C i) := by
  have hw1 : w1.ownsRow base 36 1 (.slice (some ⟨g, 0, none⟩) len cap) len ((List.range len).map xs) := by
    refine h1.kept hg ?_
    have := own_ne h1 (h2 d hd) (by decide)
    exact this
  have hne : ∀ {m : Nat} {v : Value} {ys : List Value}, w1.ownsRow base 3 1 v m ys → (w1.setCell ⟨g, d, none⟩ v').ownsRow base 3 1 v m ys := fun {m v ys} h => by
    refine own_of_block h (fun k hk => Below.heap_setCell _ _ _ _ ?_)
    intro e
    have e' : k = g := e
    rcases own_ne h hw1 (by decide) with h0 | h0
    · rw [h0] at hk; cases hk
    · rw [hk, e'] at h0; exact h0 rfl
  refine ⟨fun i => if i = d then v' else xs i, ?_, fun i hi => ?_, fun i j hi hj hij => ?_⟩
  · have hs := hw1.stored d v'
    have e : ((List.range len).map xs).set d v' = (List.range len).map (fun i => if i = d then v' else xs i) := by
      refine List.ext_getElem? (fun i => ?_)
      rw [List.getElem?_set]
      by_cases e : d = i
      · subst e
        simp [hd]
      · rw [if_neg e]
        by_cases hi : i < len
        · simp [hi, show ¬ i = d from fun h => e h.symm]
        · simp [hi]
    rw [← e]
    exact hs.1
  · by_cases e : i = d
    · subst e
      simp only [if_true]
      have := hne hown
      simpa using this
    · simp only [e, if_false]
      refine hne ((h2 i hi).kept hg ?_)
      rcases h3 i d hi hd e with h | h
      · exact .inl h
      · exact .inr h
  · have fresh : ∀ i, i < len → i ≠ d → (xs i).ownBlock = none ∨ (xs i).ownBlock ≠ v'.ownBlock := fun i hi hid => by
      rcases hat with h | h
      · rw [h]; exact h3 i d hi hd hid
      · cases hx : (xs i).ownBlock with
        | none => exact .inl rfl
        | some k =>
          right
          have := ((h2 i hi).lt k hx).2
          rw [h]
          simp only [ne_eq, Option.some.injEq]
          omega
    by_cases e : i = d
    · subst e
      simp only [if_true, if_neg (Ne.symm hij)]
      cases hv : v'.ownBlock with
      | none => exact .inl rfl
      | some k =>
        right
        rcases fresh j hj (Ne.symm hij) with h | h
        · rw [h]; simp
        · rw [hv] at h; exact fun e => h e.symm
    · simp only [e, if_false]
      by_cases e2 : j = d
      · subst e2
        simp only [if_true]
        exact fresh i hi e
      · simp only [e2, if_false]
        exact h3 i j hi hj hij

/-- The struct's cells: the input, the place k, ok (true), the leaves' depth, the counts by depth. -/
def stCell (inp : Value) (k : Nat) (ld : Int) (lv : Value) (j : Nat) : Value :=
  if j = 0 then inp else if j = 1 then .int .i64 (k : Nat) else if j = 2 then .bool true else if j = 3 then .int .i64 ld else lv

/-- THE WALK's STATE: the struct lies in the block that was the next one when w0 stood; all older blocks are as they were. -/
structure WS (w0 : World) (vb n : Nat) (k : Nat) (ld : Int) (len : Nat) (C : Nat → List Nat) (wr : World) : Prop where
  below : Below w0.heap.size w0 wr
  st : ∃ lv, wr.rowIs w0.heap.size 55 5 (stCell (.slice (some ⟨vb, 0, none⟩) n n) k ld lv) ∧ Lvls wr (w0.heap.size + 1) lv len C
  empty : ∀ i, len ≤ i → C i = []

/-- What is below the walk's own blocks is as it was behind an append to one of them. -/
theorem below_grown {w0 w w1 : World} {base : Nat} {row : Option Nat} (hbel : Below w0.heap.size w0 w) (hle : w0.heap.size < w.heap.size) (hg : w.grownBy w1 row) (hr : ∀ k, row = some k → base ≤ k) (hb : w0.heap.size < base) : Below w0.heap.size w0 w1 :=
  hbel.grown hg (by omega) (fun k hk => by have := hr k hk; omega)

/-- The struct's row behind an append. -/
theorem row_grown {w w1 : World} {b base : Nat} {t : TypeId} {m : Nat} {f : Nat → Value} {row : Option Nat} (hst : w.rowIs b t m f) (hg : w.grownBy w1 row) (hr : ∀ k, row = some k → base ≤ k) (hb : b < base) : w1.rowIs b t m f :=
  hst.of_block (hg.block b hst.lt (fun e => by have := hr b e.symm; omega))

theorem ws_push {w0 w w1 : World} {vb n k len : Nat} {ld : Int} {C : Nat → List Nat} {lv lv' : Value} {xs : Nat → Value} {X : Obj} (hbel : Below w0.heap.size w0 w)
    (hst : w.rowIs w0.heap.size 55 5 (stCell (.slice (some ⟨vb, 0, none⟩) n n) k ld lv)) (h1 : w.ownsRow (w0.heap.size + 1) 36 1 lv len ((List.range len).map xs))
    (h2 : ∀ i, i < len → w.ownsRow (w0.heap.size + 1) 3 1 (xs i) (C i).length ((C i).map fun c => Value.int .i64 (c : Nat)))
    (h3 : ∀ i j, i < len → j < len → i ≠ j → (xs i).ownBlock = none ∨ (xs i).ownBlock ≠ (xs j).ownBlock) (hem : ∀ i, len ≤ i → C i = [])
    (hown : w1.ownsRow (w0.heap.size + 1) 36 1 lv' (len + 1) ((List.range len).map xs ++ [.slice none 0 0])) (hg : (w.alloc X).grownBy w1 lv.ownBlock) :
    WS w0 vb n k ld (len + 1) C (w1.setCell ⟨w0.heap.size, 4, none⟩ lv') := by
  have hr : ∀ j, lv.ownBlock = some j → w0.heap.size + 1 ≤ j := fun j hj => (h1.lt j hj).1
  have hW := hst.lt
  have hb1 := below_grown (hbel.alloc (by omega) X) (by rw [nb_alloc]; omega) hg hr (by omega)
  have hs1 := row_grown (hst.alloc X) hg hr (by omega)
  refine ⟨hb1.setCell (Nat.le_refl _) _, ⟨lv', (hs1.set 4 lv').congr (fun j hj => ?_), ?_⟩, fun i hi => hem i (by omega)⟩
  · match j, hj with
    | 0, _ => rfl
    | 1, _ => rfl
    | 2, _ => rfl
    | 3, _ => rfl
    | 4, _ => rfl
  · refine (Lvls.push (h1.alloc X) (fun i hi => (h2 i hi).alloc X) h3 hown hg (hem len (Nat.le_refl _))).of_blocks (fun j hj _ => ?_)
    exact Below.heap_setCell _ _ _ _ (by show j ≠ w0.heap.size; omega)

theorem ws_add {w0 w w1 : World} {vb n k len d c g cap H : Nat} {ld : Int} {C : Nat → List Nat} {v' : Value} {xs : Nat → Value} {X : Obj} (hbel : Below w0.heap.size w0 w)
    (hst : w.rowIs w0.heap.size 55 5 (stCell (.slice (some ⟨vb, 0, none⟩) n n) k ld (.slice (some ⟨g, 0, none⟩) len cap))) (h1 : w.ownsRow (w0.heap.size + 1) 36 1 (.slice (some ⟨g, 0, none⟩) len cap) len ((List.range len).map xs))
    (h2 : ∀ i, i < len → w.ownsRow (w0.heap.size + 1) 3 1 (xs i) (C i).length ((C i).map fun c => Value.int .i64 (c : Nat)))
    (h3 : ∀ i j, i < len → j < len → i ≠ j → (xs i).ownBlock = none ∨ (xs i).ownBlock ≠ (xs j).ownBlock) (hem : ∀ i, len ≤ i → C i = []) (hd : d < len)
    (hown : w1.ownsRow (w0.heap.size + 1) 3 1 v' ((C d).length + 1) ((C d).map (fun c => Value.int .i64 (c : Nat)) ++ [.int .i64 (c : Nat)])) (hg : ((w.alloc X).drew).grownBy w1 (xs d).ownBlock)
    (hat : v'.ownBlock = (xs d).ownBlock ∨ v'.ownBlock = some H) (hH : w.heap.size + 1 = H) :
    WS w0 vb n k ld len (fun i => if i = d then C d ++ [c] else C i) (w1.setCell ⟨g, d, none⟩ v') := by
  have hr : ∀ j, (xs d).ownBlock = some j → w0.heap.size + 1 ≤ j := fun j hj => ((h2 d hd).lt j hj).1
  have hW := hst.lt
  have hgb := (h1.lt g rfl).1
  have hsz : ((w.alloc X).drew).heap.size = w.heap.size + 1 := nb_alloc w X
  have hb1 := below_grown ((hbel.alloc (by omega) X).drew) (by rw [hsz]; omega) hg hr (by omega)
  have hs1 := row_grown ((hst.alloc X).drew) hg hr (by omega)
  refine ⟨hb1.setCell (by show w0.heap.size ≤ g; omega) _, ⟨_, hs1.setOther (by show w0.heap.size ≠ g; omega) _, ?_⟩, fun i hi => ?_⟩
  · exact Lvls.add ((h1.alloc X).drew) (fun i hi => ((h2 i hi).alloc X).drew) h3 hd hown hg hat (hsz.trans hH)
  · show (if i = d then C d ++ [c] else C i) = []
    rw [if_neg (by omega)]; exact hem i hi

section
variable {w0 w : World} {vb n k len : Nat} {ld : Int} {C : Nat → List Nat}

theorem WS.c0 (h : WS w0 vb n k ld len C w) : w.cell? ⟨w0.heap.size, 0, none⟩ = some (.slice (some ⟨vb, 0, none⟩) n n) := by
  obtain ⟨lv, hst, _⟩ := h.st
  exact hst.cell (i := 0) (by omega)
theorem WS.c1 (h : WS w0 vb n k ld len C w) : w.cell? ⟨w0.heap.size, 1, none⟩ = some (.int .i64 (k : Nat)) := by
  obtain ⟨lv, hst, _⟩ := h.st
  exact hst.cell (i := 1) (by omega)
theorem WS.c2 (h : WS w0 vb n k ld len C w) : w.cell? ⟨w0.heap.size, 2, none⟩ = some (.bool true) := by
  obtain ⟨lv, hst, _⟩ := h.st
  exact hst.cell (i := 2) (by omega)
theorem WS.c3 (h : WS w0 vb n k ld len C w) : w.cell? ⟨w0.heap.size, 3, none⟩ = some (.int .i64 ld) := by
  obtain ⟨lv, hst, _⟩ := h.st
  exact hst.cell (i := 3) (by omega)
theorem WS.fz (h : WS w0 vb n k ld len C w) (j : Nat) : w.frozen? ⟨w0.heap.size, j, none⟩ = false := by
  obtain ⟨lv, hst, _⟩ := h.st
  exact hst.frozen j
theorem WS.lt (h : WS w0 vb n k ld len C w) : w0.heap.size < w.heap.size := by
  obtain ⟨lv, hst, _⟩ := h.st
  exact hst.lt
theorem WS.setK (h : WS w0 vb n k ld len C w) (k' : Nat) : WS w0 vb n k' ld len C (w.setCell ⟨w0.heap.size, 1, none⟩ (.int .i64 (k' : Nat))) := by
  obtain ⟨hb, ⟨lv, hst, hl⟩, he⟩ := h
  refine ⟨hb.setCell (Nat.le_refl _) _, ⟨lv, (hst.set 1 _).congr (fun j hj => ?_), hl.of_blocks (fun j hj _ => Below.heap_setCell _ _ _ _ (by show j ≠ w0.heap.size; omega))⟩, he⟩
  match j, hj with
  | 0, _ => rfl
  | 1, _ => rfl
  | 2, _ => rfl
  | 3, _ => rfl
  | 4, _ => rfl
theorem WS.setLd (h : WS w0 vb n k ld len C w) (ld' : Int) : WS w0 vb n k ld' len C (w.setCell ⟨w0.heap.size, 3, none⟩ (.int .i64 ld')) := by
  obtain ⟨hb, ⟨lv, hst, hl⟩, he⟩ := h
  refine ⟨hb.setCell (Nat.le_refl _) _, ⟨lv, (hst.set 3 _).congr (fun j hj => ?_), hl.of_blocks (fun j hj _ => Below.heap_setCell _ _ _ _ (by show j ≠ w0.heap.size; omega))⟩, he⟩
  match j, hj with
  | 0, _ => rfl
  | 1, _ => rfl
  | 2, _ => rfl
  | 3, _ => rfl
  | 4, _ => rfl
theorem WS.drewAny (h : WS w0 vb n k ld len C w) (nq : Nat) : WS w0 vb n k ld len C (w.drewN nq) := by
  obtain ⟨hb, ⟨lv, hst, hl⟩, he⟩ := h
  exact ⟨⟨hb.os, hb.tape, hb.output, hb.size, hb.block⟩, ⟨lv, hst, hl⟩, he⟩
theorem WS.congr (h : WS w0 vb n k ld len C w) {k' len' : Nat} {ld' : Int} {C' : Nat → List Nat} (e1 : k = k') (e2 : ld = ld') (e3 : len = len') (e4 : ∀ i, C i = C' i) : WS w0 vb n k' ld' len' C' w := by
  subst e1; subst e2; subst e3
  have : C = C' := funext e4
  subst this
  exact h
end

end Go.Proofs.Qxb6600858a
