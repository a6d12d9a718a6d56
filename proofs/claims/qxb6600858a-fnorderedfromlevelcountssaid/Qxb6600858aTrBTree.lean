/-
  THE WALK of FnOrderedFromBTree (9).
-/
import Derived.Test.Qxb6600858aTrWalk
import Derived.Test.Qxb6600858aTrOrdered
namespace Go.Proofs.Qxb6600858a
open Go.RowKit

/-- zzWalkTree at every height. -/
theorem walk_all (w0 : World) (vb n : Nat) (S : Nat → ByteArray) (hn : n ≤ 65536) (hv : w0.rowIs vb 43 (n * 2) (vcell S)) : ∀ h, WalkOk w0 vb n S h := by
  intro h
  induction h with
  | zero => exact walk_step w0 vb n S hn hv 0 (fun h' e => by omega)
  | succ h ih =>
    refine walk_step w0 vb n S hn hv (h + 1) (fun h' e => ?_)
    obtain rfl : h' = h := by omega
    exact ih

theorem rowIs_new5 {w : World} {a b c d e : Value} {t : TypeId} {f : Nat → Value} {n : Nat} (hn : w.heap.size = n) (h0 : f 0 = a) (h1 : f 1 = b) (h2 : f 2 = c) (h3 : f 3 = d) (h4 : f 4 = e) : (w.alloc (.cells #[a, b, c, d, e] t)).rowIs n t 5 f := by
  subst hn
  refine World.rowIs_alloc w #[a, b, c, d, e] t f (fun i hi => ?_)
  match i, hi with
  | 0, _ => simp [h0]
  | 1, _ => simp [h1]
  | 2, _ => simp [h2]
  | 3, _ => simp [h3]
  | 4, _ => simp [h4]

/-- The state with which the walk begins. -/
theorem ws_start (w0 : World) (vb n : Nat) : WS w0 vb n 0 (-1) 0 (fun _ => []) (w0.alloc (.cells #[.slice (some ⟨vb, 0, none⟩) n n, .int .i64 0, .bool true, .int .i64 (-1), .slice none 0 0] 55)) :=
  ⟨(Below.refl _ _).alloc (Nat.le_refl _) _, ⟨.slice none 0 0, rowIs_new5 rfl rfl rfl rfl rfl rfl, Lvls.nil _ _ _⟩, fun _ _ => rfl⟩

set_option maxRecDepth 100000 in
set_option maxHeartbeats 800000 in
theorem bTree_walk (n : Nat) (hn : n ≤ 65536) (hn1 : 1 ≤ n) (w : World) :
    Calls Try.prog 9 #[.int .i64 n] w fun e w' => e = .returned (.bool true) ∧ Below w.heap.size w w' := by
  have HD := distinct_any n hn w
  go_enter Try.func9, Try.ntmps9
  go_wp2_with fail
  refine HD.mono ?_
  rintro e w1 ⟨S, rfl, hv, hb1⟩
  have HO := zzOrderedFrom_any 4 w.heap.size n S w1 hn hn1 hv
  clear HD
  go_wp2_with fail
  refine HO.mono ?_
  rintro e w2 ⟨h, D, F, rfl, hT, hF, hmore, hc1, hb2⟩
  clear HO
  have hrt := orderedRoot_any w2.heap.size (some ⟨D, 0, none⟩) (w2.alloc (.cells #[.int .u8 4, .pointer (some ⟨D, 0, none⟩)] 47)) (by simp)
  go_wp2_with fail
  refine hrt.mono ?_
  rintro e w' ⟨rfl, rfl⟩
  clear hrt
  obtain ⟨w0, hw0⟩ : ∃ w0 : World, w0 = w2.alloc (.cells #[.int .u8 4, .pointer (some ⟨D, 0, none⟩)] 47) := ⟨_, rfl⟩
  rw [← hw0]
  have hT0 : Tree w0 w.heap.size n S h D 0 n 0 F := by rw [hw0]; exact hT.mono (fun k hk => Below.heap_alloc _ _ _ hk)
  have hv0 : w0.rowIs w.heap.size 43 (n * 2) (vcell S) := by rw [hw0]; exact (hv.of_block (hb2.block _ hv.lt)).alloc _
  have hs0 : w0.heap.size = w2.heap.size + 1 := by rw [hw0]; exact nb_alloc _ _
  have hO : w0.cell? ⟨w2.heap.size, 1, none⟩ = some (.pointer (some ⟨D, 0, none⟩)) := by rw [hw0]; simp
  have hB0 : Below w.heap.size w w0 := by
    rw [hw0]
    exact (hb1.trans (hb2.mono hb1.size)).alloc (by have := hb1.size; have := hb2.size; omega) _
  have hh2 := Tr.height_le hn hmore
  have hbud : ∀ x, ((fun _ => []) (0 + x) : List Nat).length + (F x).length ≤ 1000000 := fun x => by
    by_cases hx : x ≤ h
    · rw [hF x hx, Tr.counts_length]
      have h0 : Tr.mm n (h - x) ≤ 65536 := by
        have : ∀ g, Tr.mm n g ≤ 65536 := fun g => by
          induction g with
          | zero => exact hn
          | succ g ih => have := Pk.cnt_bound _ ih; show Pk.cnt (Tr.mm n g) - 1 ≤ 65536; omega
        exact this _
      have := Pk.cnt_bound _ h0
      simp; omega
    · rw [hT.deep x (by omega)]; simp
  have HW := walk_all w0 w.heap.size n S hn hv0 h D 0 n 0 0 64 0 F (fun _ => []) (-1) _ hT0 (fun h => by omega) (ws_start w0 w.heap.size n) (.inl rfl) (.inl rfl) (by omega) (by omega) (by omega) hbud
  rw [hs0] at HW
  have hsz := hT0.size
  have hDl := World.block_lt_of_cell? w0 _ hsz
  clear hw0 hT hT0 hv hv0 hb1 hb2 hF hmore hc1
  go_wp2_with fail
  refine HW.mono ?_
  rintro e w3 ⟨rfl, hWS⟩
  have x1 := hWS.c1
  have x2 := hWS.c2
  rw [hs0] at x1 x2
  have x3 := (hWS.below.cell (p := ⟨w2.heap.size, 1, none⟩) (by show w2.heap.size < w0.heap.size; omega)).trans hO
  have x4 := (hWS.below.cell (p := ⟨D, 2, none⟩) hDl).trans hsz
  have HL := orderedLen_any w2.heap.size D _ w3 x3 x4
  have hB3 : Below w.heap.size w w3 := hB0.trans (hWS.below.mono (by have := hB0.size; omega))
  clear HW hWS
  go_wp2_with fail
  refine HL.mono ?_
  rintro e w4 ⟨rfl, rfl⟩
  go_wp2_with fail
  go_ret
  exact ⟨by simp, hB3⟩

end Go.Proofs.Qxb6600858a
