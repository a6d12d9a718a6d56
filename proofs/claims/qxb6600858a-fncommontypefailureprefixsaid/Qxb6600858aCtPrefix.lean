/-
  THE WALK of FnCommonTypeFailurePrefix (5) on a list of at most 1<<20 codes.
-/
import Derived.Test.Qxb6600858aCtWalks
namespace Go.Proofs.Qxb6600858a.fnCommonTypeFailurePrefix
open Go.RowKit

theorem bytes_no (a0 : Option Addr) (len cap : Nat) (w : World) (h : 1048576 < len) (_hm : len ≤ 9223372036854775807) :
    Calls Try.prog 15 #[.slice a0 len cap] w fun e w' => e = .returned (.bool false) ∧ w = w' := by
  go_enter Try.func15, Try.ntmps15
  go_wp2
  go_ret
  exact ⟨rfl, rfl⟩
theorem bytes_yes (a0 : Option Addr) (len cap : Nat) (w : World) (_h : len ≤ 1048576) :
    Calls Try.prog 15 #[.slice a0 len cap] w fun e w' => e = .returned (.bool true) ∧ w = w' := by
  go_enter Try.func15, Try.ntmps15
  go_wp2
  go_ret
  exact ⟨rfl, rfl⟩

theorem cells_take {w : World} {b len : Nat} {zs : List Int} (hr : w.rowIs b 26 len (fun i => .int .u8 (zs.getD i 0))) (m : Nat) (hm : m ≤ len) :
    ∀ i, i < m → w.cell? ⟨b, 0 + i, none⟩ = some (.int .u8 ((zs.take m).getD i 0)) := by
  intro i hi
  rw [Nat.zero_add, hr.cell (by omega)]
  simp [List.getD, hi]

/-- The law's part behind the first call, on a list that has no common type. -/
theorem walk_short (a0 : Option Addr) (len0 cap0 : Nat) (zs : List Int) (w : World) (hlen : len0 ≤ 1048576) (hz : zs.length = len0)
    (ha : 0 < len0 → ∃ b off, a0 = some ⟨b, off, none⟩ ∧ b < w.heap.size ∧ ∀ i, i < len0 → w.cell? ⟨b, off + i, none⟩ = some (.int .u8 (zs.getD i 0))) :
    Calls Try.prog 5 #[.slice a0 len0 cap0] w fun e w' => e = .returned (.bool true) ∧ Below w.heap.size w w' := by
  have HT := toTypes_any a0 len0 cap0 zs w hlen ha
  obtain ⟨g, x, hgx⟩ : ∃ g x, Ct.ct 0 0 zs = (g, x) := ⟨_, _, rfl⟩
  have HP := Ct.ct_prefix zs 0 0
  rw [hgx] at HP
  obtain ⟨hg0, hp⟩ := HP
  have hg : (g == 0) = false := by simpa using hg0
  clear hg0
  have HX : Hid (Ct.ct 0 0 zs = (g, x)) := hgx
  clear hgx
  have e0 : zs.take len0 = zs := by rw [← hz]; exact List.take_length
  rcases hp with hx | ⟨k, hk, hx, e1, e2⟩
  · simp only at hx
    subst hx
    clear ha
    go_enter Try.func5, Try.ntmps5
    go_wp2_with (go_at_call 15; refine (bytes_yes _ _ _ _ hlen).mono ?_; rintro e w' ⟨rfl, rfl⟩)
    refine HT.mono ?_
    rintro e w1 ⟨rfl, hrow, hbel⟩
    have HC := zzCommonType_any w.heap.size len0 len0 zs w1 hz hlen (by rw [← e0]; exact cells_take hrow len0 (Nat.le_refl _))
    rw [HX.out] at HC
    go_wp2_with (go_at_call 12; refine HC.mono ?_; rintro e w' ⟨rfl, rfl⟩)
    go_ret
    exact ⟨rfl, hbel⟩
  · simp only [Int.zero_add] at hx e1 e2
    subst hx
    clear ha
    go_enter Try.func5, Try.ntmps5
    go_wp2_with (go_at_call 15; refine (bytes_yes _ _ _ _ hlen).mono ?_; rintro e w' ⟨rfl, rfl⟩)
    refine HT.mono ?_
    rintro e w1 ⟨rfl, hrow, hbel⟩
    have HC := zzCommonType_any w.heap.size len0 len0 zs w1 hz hlen (by rw [← e0]; exact cells_take hrow len0 (Nat.le_refl _))
    have H1 := zzCommonType_any w.heap.size k len0 (zs.take k) w1 (by simp; omega) (by omega) (cells_take hrow k (by omega))
    have H2 := zzCommonType_any w.heap.size (k + 1) len0 (zs.take (k + 1)) w1 (by simp; omega) (by omega) (cells_take hrow (k + 1) (by omega))
    rw [HX.out] at HC
    rw [e1] at H1
    rw [e2] at H2
    clear e0 e1 e2 hrow
    have hk' : k < len0 := by omega
    clear hz hk
    go_wp2_with fail
    refine HC.mono ?_
    rintro e w' ⟨rfl, rfl⟩
    go_wp2_with fail
    refine H1.mono ?_
    rintro e w' ⟨rfl, rfl⟩
    go_wp2_with fail
    refine H2.mono ?_
    rintro e w' ⟨rfl, rfl⟩
    go_wp2
    go_ret
    exact ⟨rfl, hbel⟩

end Go.Proofs.Qxb6600858a.fnCommonTypeFailurePrefix
