/-
  THE WALK of FnCommonTypeMatchesSetModel (3) on a list of at most 1<<20 codes.
-/
import Derived.Test.Qxb6600858aCtSet
namespace Go.Proofs.Qxb6600858a.fnCommonTypeMatchesSetModel
open Go.RowKit

theorem bytes_no (a0 : Option Addr) (len cap : Nat) (w : World) (h : 1048576 < len) (_hm : len ≤ 9223372036854775807) :
    Calls Try.prog 10 #[.slice a0 len cap] w fun e w' => e = .returned (.bool false) ∧ w = w' := by
  go_enter Try.func10, Try.ntmps10
  go_wp2
  go_ret
  exact ⟨rfl, rfl⟩
theorem bytes_yes (a0 : Option Addr) (len cap : Nat) (w : World) (_h : len ≤ 1048576) :
    Calls Try.prog 10 #[.slice a0 len cap] w fun e w' => e = .returned (.bool true) ∧ w = w' := by
  go_enter Try.func10, Try.ntmps10
  go_wp2
  go_ret
  exact ⟨rfl, rfl⟩

theorem walk_short (a0 : Option Addr) (cap0 : Nat) (zs : List Int) (w : World) (hlen : zs.length ≤ 1048576) (hwf : ∀ n ∈ zs, 0 ≤ n ∧ n ≤ 255)
    (ha : 0 < zs.length → ∃ b off, a0 = some ⟨b, off, none⟩ ∧ b < w.heap.size ∧ ∀ i, i < zs.length → w.cell? ⟨b, off + i, none⟩ = some (.int .u8 (zs.getD i 0))) :
    Calls Try.prog 3 #[.slice a0 zs.length cap0] w fun e w' => e = .returned (.bool true) ∧ Below w.heap.size w w' := by
  have HT := toTypes_any a0 zs.length cap0 zs w hlen ha
  obtain ⟨g, x, hgx⟩ : ∃ g x, Ct.ct 0 0 zs = (g, x) := ⟨_, _, rfl⟩
  go_enter Try.func3, Try.ntmps3
  go_wp2_with (go_at_call 10; refine (bytes_yes _ _ _ _ hlen).mono ?_; rintro e w' ⟨rfl, rfl⟩)
  refine HT.mono ?_
  rintro e w1 ⟨rfl, hrow, hbel⟩
  have HC := zzCommonType_any w.heap.size zs.length zs.length zs w1 rfl hlen (fun i hi => by rw [Nat.zero_add]; exact hrow.cell hi)
  have HS := setModel_any a0 cap0 zs w1 hlen hwf (fun hpos => by
    obtain ⟨b, off, h1, hb, hc⟩ := ha hpos
    exact ⟨b, off, h1, by have := hbel.size; omega, fun i hi => (hbel.cell (by exact hb)).trans (hc i hi)⟩)
  rw [hgx] at HC HS
  have hsz := hbel.size
  clear HT ha hwf hgx hrow
  go_wp2_with fail
  refine HC.mono ?_
  rintro e w' ⟨rfl, rfl⟩
  go_wp2_with fail
  refine HS.mono ?_
  rintro e w2 ⟨rfl, hbel2⟩
  go_wp2
  go_ret
  exact ⟨rfl, hbel.trans (hbel2.mono hsz)⟩

end Go.Proofs.Qxb6600858a.fnCommonTypeMatchesSetModel
