/-
  THE WALKS of zzToTypes (11), commonType (28), ZZCommonType (12), IsInteger (34), and the zzBytes guards.
-/
import Derived.Test.Qxb6600858aProg
import Derived.Test.Qxb6600858aCtPlain
import Derived.WalkKit
import Derived.WalkSpells
import Derived.WalkLawsBesides
import Derived.Deep.OwnRows
namespace Go.Proofs.Qxb6600858a
open Go.RowKit

theorem Try.info26 : (Try.prog.info? 26).map (fun i => (i.zero, i.size, i.bytes)) = some (some (.int .u8 0), 1, 1) := by kernel_rfl

set_option maxHeartbeats 400000 in
theorem toTypes_any (a : Option Addr) (len cap : Nat) (zs : List Int) (w : World) (hlen : len ≤ 1048576)
    (ha : 0 < len → ∃ b off, a = some ⟨b, off, none⟩ ∧ b < w.heap.size ∧ ∀ i, i < len → w.cell? ⟨b, off + i, none⟩ = some (.int .u8 (zs.getD i 0))) :
    Calls Try.prog 11 #[.slice a len cap] w fun e w' => e = .returned (.slice (some ⟨w.heap.size, 0, none⟩) len len) ∧
      w'.rowIs w.heap.size 26 len (fun i => .int .u8 (zs.getD i 0)) ∧ Below w.heap.size w w' := by
  have hmk := run_make_row' (P := Try.prog) 24 26 (.int .u8 0) 1 Try.underlying24 Try.info26 rfl .i64 .i64 len (by omega) (by omega)
  go_enter Try.func11, Try.ntmps11
  go_wp2
  go_loopw [4] (fun i wr => ∃ k : Nat, k ≤ len ∧ i = .int .i64 k ∧ wr.rowIs w.heap.size 26 len (fun j => if j < k then .int .u8 (zs.getD j 0) else .int .u8 0) ∧ Below w.heap.size w wr)
    (fun i _ => len - (intOf i).toNat)
  case atStart => exact ⟨0, Nat.zero_le _, rfl, (World.rowIs_made w _ len 26).congr (fun i hi => by simp), (Below.refl _ _).alloc (Nat.le_refl _) _⟩
  case round =>
    obtain ⟨k, hk, rfl, hrow, hbel⟩ := hrel
    clear hmk
    by_cases hlt : k < len
    · obtain ⟨b, off, rfl, hb, hc⟩ := ha (by omega)
      have hcx : wr.cell? ⟨b, off + k, none⟩ = some (.int .u8 (zs.getD k 0)) := (hbel.cell (by exact hb)).trans (hc k hlt)
      have hcy := hrow.cell hlt
      have hfy := hrow.frozen k
      go_wp2
      go_roundw
      case rel =>
        refine ⟨k + 1, by omega, by go_num, (hrow.set k _).congr (fun j hj => ?_), hbel.setCell (Nat.le_refl _) _⟩
        by_cases e : j = k
        · subst e; simp
        · simp only [e, if_false]
          by_cases h : j < k
          · rw [if_pos h, if_pos (by omega)]
          · rw [if_neg h, if_neg (by omega)]
      case measure => simp [intOf]; omega
    · go_wp2
      go_ret
      exact ⟨rfl, hrow.congr (fun j hj => by rw [if_pos (by omega)]), hbel⟩

/-- IsInteger. -/
theorem isInteger_any (t : Int) (w : World) :
    Calls Try.prog 34 #[.int .u8 t] w fun e w' => e = .returned (.bool (decide (t = 2 ∨ t = 3))) ∧ w = w' := by
  by_cases h2 : t = 2
  · subst h2
    go_enter Try.func34, Try.ntmps34
    go_wp2
    go_ret
    exact ⟨rfl, rfl⟩
  · by_cases h3 : t = 3
    · subst h3
      go_enter Try.func34, Try.ntmps34
      go_wp2
      go_ret
      exact ⟨rfl, rfl⟩
    · have e : decide (t = 2 ∨ t = 3) = false := decide_eq_false (by omega)
      rw [e]
      clear e
      go_enter Try.func34, Try.ntmps34
      go_wp2
      go_ret
      exact ⟨by simp [h2, h3], rfl⟩

theorem ret_ct {p : Int × Int} {x y : Int} (h : p = (x, y)) : Ending.returned (.tuple #[.int .u8 x, .int .i64 y]) = .returned (.tuple #[.int .u8 p.1, .int .i64 p.2]) := by rw [h]

/-- commonType reads the row and computes 'ct'. -/
theorem commonType_any (b len cap : Nat) (zs : List Int) (w : World) (hz : zs.length = len) (hlen : len ≤ 1048576)
    (hc : ∀ i, i < len → w.cell? ⟨b, 0 + i, none⟩ = some (.int .u8 (zs.getD i 0))) :
    Calls Try.prog 28 #[.slice (some ⟨b, 0, none⟩) len cap] w fun e w' => e = .returned (.tuple #[.int .u8 (Ct.ct 0 0 zs).1, .int .i64 (Ct.ct 0 0 zs).2]) ∧ w = w' := by
  subst hz
  go_enter Try.func28, Try.ntmps28
  go_wp2
  go_loop [4, 9] (fun c i => ∃ (k : Nat) (x : Int), k ≤ zs.length ∧ i = .int .i64 k ∧ c = .int .u8 x ∧ Ct.ct 0 0 zs = Ct.ct x k (zs.drop k)) (fun _ i => zs.length - (intOf i).toNat)
  case atStart => exact ⟨0, 0, Nat.zero_le _, rfl, rfl, rfl⟩
  case round =>
    obtain ⟨k, x, hk, rfl, rfl, hct⟩ := hrel
    have HC : Hid (Ct.ct 0 0 zs = Ct.ct x k (zs.drop k)) := hct
    clear hct
    by_cases hlt : k < zs.length
    · obtain ⟨t, ht⟩ : ∃ t, t = zs.getD k 0 := ⟨_, rfl⟩
      have hcx : w.cell? ⟨b, k, none⟩ = some (.int .u8 t) := by rw [ht]; simpa using hc k hlt
      have hd : Hid (zs.drop k = t :: zs.drop (k + 1)) := by
        show zs.drop k = _
        rw [ht, List.drop_eq_getElem_cons hlt]; simp [hlt]
      clear ht
      go_wp2_with (go_at_call 34; refine (isInteger_any _ _).mono ?_; rintro e w' ⟨rfl, rfl⟩)
      · have h0 : t = 0 := by assumption
        go_round
        case rel => exact ⟨k + 1, x, by omega, by go_num, rfl, Ct.ct_go HC.out hd.out (Ct.stp_keep (.inl h0))⟩
        case measure => simp [intOf]; omega
      · have h0 : (t == 0) = true ∨ (t == x) = true := by assumption
        go_round
        case rel => exact ⟨k + 1, x, by omega, by go_num, rfl, Ct.ct_go HC.out hd.out (Ct.stp_keep (by simpa using h0))⟩
        case measure => simp [intOf]; omega
      · have h0 : (t == 0) = false ∧ (t == x) = false := by assumption
        have h1 : (x == 0) = true := by assumption
        go_round
        case rel => exact ⟨k + 1, t, by omega, by go_num, rfl, Ct.ct_go HC.out hd.out (Ct.stp_first (by simpa using h0) (by simpa using h1))⟩
        case measure => simp [intOf]; omega
      · have h0 : (t == 0) = false ∧ (t == x) = false := by assumption
        have h1 : (x == 0) = false := by assumption
        have h2 : (t = 2 ∨ t = 3) ∧ (x = 2 ∨ x = 3) := by assumption
        go_round
        case rel => exact ⟨k + 1, 3, by omega, by go_num, rfl, Ct.ct_go HC.out hd.out (Ct.stp_big (by simpa using h0) (by simpa using h1) h2)⟩
        case measure => simp [intOf]; omega
      · have h0 : (t == 0) = false ∧ (t == x) = false := by assumption
        have h1 : (x == 0) = false := by assumption
        have h2 : ¬t = 2 ∧ ¬t = 3 ∨ ¬x = 2 ∧ ¬x = 3 := by assumption
        have e := Ct.ct_stop HC.out hd.out (Ct.stp_no (by simpa using h0) (by simpa using h1) (by omega))
        go_ret2
        exact ⟨ret_ct e, rfl⟩
      · have h0 : (t == 0) = false ∧ (t == x) = false := by assumption
        have h1 : (x == 0) = false := by assumption
        have h2 : ¬(t = 2 ∨ t = 3) := by assumption
        have e := Ct.ct_stop HC.out hd.out (Ct.stp_no (by simpa using h0) (by simpa using h1) (by omega))
        go_ret2
        exact ⟨ret_ct e, rfl⟩
    · have e := Ct.ct_end HC.out (by omega)
      have HE : Hid (Ct.ct 0 0 zs = (if x = 0 then 4 else x, -1)) := e
      clear e
      go_wp2
      · have h1 : (x == 0) = true := by assumption
        go_ret2
        exact ⟨ret_ct (HE.out.trans (by rw [if_pos (by simpa using h1)])), rfl⟩
      · have h1 : (x == 0) = false := by assumption
        go_ret2
        exact ⟨ret_ct (HE.out.trans (by rw [if_neg (by simpa using h1)])), rfl⟩

/-- ZZCommonType hands it on. -/
theorem zzCommonType_any (b len cap : Nat) (zs : List Int) (w : World) (hz : zs.length = len) (hlen : len ≤ 1048576)
    (hc : ∀ i, i < len → w.cell? ⟨b, 0 + i, none⟩ = some (.int .u8 (zs.getD i 0))) :
    Calls Try.prog 12 #[.slice (some ⟨b, 0, none⟩) len cap] w fun e w' => e = .returned (.tuple #[.int .u8 (Ct.ct 0 0 zs).1, .int .i64 (Ct.ct 0 0 zs).2]) ∧ w = w' := by
  have H := commonType_any b len cap zs w hz hlen hc
  obtain ⟨t, x, ht⟩ : ∃ t x, Ct.ct 0 0 zs = (t, x) := ⟨_, _, rfl⟩
  rw [ht] at H ⊢
  go_enter Try.func12, Try.ntmps12
  go_wp2_with (go_at_call 28; refine H.mono ?_; rintro e w' ⟨rfl, rfl⟩)
  go_ret2
  exact ⟨rfl, rfl⟩

end Go.Proofs.Qxb6600858a
