/-
  THE WALK of zzSetModelCommonType (13): the set model computes 'ct' too.
-/
import Derived.Test.Qxb6600858aCtWalks
namespace Go.Proofs.Qxb6600858a
open Go.RowKit

def noneSeen : Array Value := Array.replicate 256 (.bool false)
theorem noneSeen_size : noneSeen.size = 256 := by simp [noneSeen]
theorem noneSeen_at (i : Nat) (h : i < 256) : noneSeen[i]? = some (.bool false) := by simp [noneSeen, h]
theorem zero59 (w : World) : Sem.run Try.prog (zeroValue 59) w = .ok (.agg noneSeen) w := by kernel_rfl

/-- What the set model's state says of the common type so far: c the common type, P which types have been seen, d how many, ni whether one is no integer, s the first. -/
def St (c : Int) (P : Nat → Bool) (d : Int) (ni : Bool) (s : Int) : Prop :=
  (c = 0 ∧ d = 0 ∧ ni = false ∧ ∀ i, P i = false) ∨
  (c ≠ 0 ∧ d = 1 ∧ s = c ∧ ni = !(decide (c = 2 ∨ c = 3)) ∧ ∀ i : Nat, P i = decide ((i : Int) = c)) ∨
  (c = 3 ∧ d = 2 ∧ ni = false ∧ ∀ i : Nat, P i = decide (i = 2 ∨ i = 3))

theorem row_add {w : World} {b tn : Nat} {P : Nat → Bool} (h : w.rowIs b 59 256 (fun j => .bool (P j))) :
    (w.setCell ⟨b, tn, none⟩ (.bool true)).rowIs b 59 256 (fun j => .bool (decide (j = tn) || P j)) :=
  (h.set tn _).congr fun j _ => by by_cases e : j = tn <;> simp [e]

theorem st_first {P : Nat → Bool} {tn : Nat} (hP : ∀ i, P i = false) (h0 : tn ≠ 0) : ∀ ni, ni = (!(decide ((tn : Int) = 2 ∨ (tn : Int) = 3))) → St tn (fun j => decide (j = tn) || P j) 1 ni tn := by
  intro ni hni
  refine .inr (.inl ⟨by omega, rfl, rfl, hni, fun i => ?_⟩)
  simp [hP]; omega

theorem st_both {P : Nat → Bool} {tn : Nat} {s : Int} (hP : ∀ i : Nat, P i = decide ((i : Int) = s)) (hne : (tn : Int) ≠ s) (ht : (tn : Int) = 2 ∨ (tn : Int) = 3) (hs : s = 2 ∨ s = 3) : St 3 (fun j => decide (j = tn) || P j) 2 false s := by
  refine .inr (.inr ⟨rfl, rfl, rfl, fun i => ?_⟩)
  rw [Bool.eq_iff_iff]
  simp [hP]
  omega

set_option maxRecDepth 100000 in
set_option maxHeartbeats 1600000 in
theorem setModel_any (a : Option Addr) (cap : Nat) (zs : List Int) (w : World) (hlen : zs.length ≤ 1048576) (hwf : ∀ n ∈ zs, 0 ≤ n ∧ n ≤ 255)
    (ha : 0 < zs.length → ∃ b off, a = some ⟨b, off, none⟩ ∧ b < w.heap.size ∧ ∀ i, i < zs.length → w.cell? ⟨b, off + i, none⟩ = some (.int .u8 (zs.getD i 0))) :
    Calls Try.prog 13 #[.slice a zs.length cap] w fun e w' => e = .returned (.tuple #[.int .u8 (Ct.ct 0 0 zs).1, .int .i64 (Ct.ct 0 0 zs).2]) ∧ Below w.heap.size w w' := by
  have hz := zero59
  go_enter Try.func13, Try.ntmps13
  go_wp2
  go_loopw [5, 6, 7, 8] (fun vd vn vs vi wr => ∃ (k : Nat) (c d s : Int) (ni : Bool) (P : Nat → Bool), k ≤ zs.length ∧ vi = .int .i64 k ∧ vd = .int .i64 d ∧ vn = .bool ni ∧ vs = .int .u8 s ∧ 
      wr.rowIs w.heap.size 59 256 (fun j => .bool (P j)) ∧ Below w.heap.size w wr ∧ Ct.ct 0 0 zs = Ct.ct c k (zs.drop k) ∧ St c P d ni s)
    (fun _ _ _ i _ => zs.length - (intOf i).toNat)
  case atStart =>
    refine ⟨0, 0, 0, 0, false, fun _ => false, Nat.zero_le _, rfl, rfl, rfl, rfl, ?_, (Below.refl _ _).alloc (Nat.le_refl _) _, rfl, .inl ⟨rfl, rfl, rfl, fun _ => rfl⟩⟩
    have := World.rowIs_alloc w noneSeen 59 (fun _ => .bool false) (fun i hi => noneSeen_at i (by simpa [noneSeen_size] using hi))
    rwa [noneSeen_size] at this
  case round =>
    obtain ⟨k, c, d, s, ni, P, hk, rfl, rfl, rfl, rfl, hrow, hbel, hct, hst⟩ := hrel
    clear hz
    have HC : Hid (Ct.ct 0 0 zs = Ct.ct c k (zs.drop k)) := hct
    clear hct
    by_cases hlt : k < zs.length
    · obtain ⟨b, off, rfl, hb, hc⟩ := ha (by omega)
      obtain ⟨tn, ht, htn⟩ : ∃ tn : Nat, zs.getD k 0 = (tn : Int) ∧ tn ≤ 255 := by
        have hm := hwf (zs.getD k 0) (by simp [List.getD, hlt])
        exact ⟨(zs.getD k 0).toNat, by omega, by omega⟩
      have hcx : wr.cell? ⟨b, off + k, none⟩ = some (.int .u8 (tn : Int)) := by rw [← ht]; exact (hbel.cell (by exact hb)).trans (hc k hlt)
      have hd : Hid (zs.drop k = (tn : Int) :: zs.drop (k + 1)) := by
        show zs.drop k = _
        rw [← ht, List.drop_eq_getElem_cons hlt]; simp [hlt]
      clear ht hc ha hwf
      have hcP := hrow.cell (i := tn) (by omega)
      have hfP := hrow.frozen tn
      have hb' : ¬ b = w.heap.size := by omega
      rcases hst with ⟨rfl, rfl, rfl, hP⟩ | ⟨hc0, rfl, rfl, hni, hP⟩ | ⟨rfl, rfl, rfl, hP⟩
      · rw [hP tn] at hcP
        by_cases h0 : tn = 0
        · subst h0
          go_wp2
          go_roundw
          case rel => exact ⟨k + 1, 0, 0, s, false, P, by omega, by go_num, rfl, rfl, rfl, hrow, hbel, Ct.ct_go HC.out hd.out (Ct.stp_keep (.inl rfl)), .inl ⟨rfl, rfl, rfl, hP⟩⟩
          case measure => simp [intOf]; omega
        · have HG := Ct.ct_go HC.out hd.out (Ct.stp_first (by omega) rfl)
          have HH : Hid (Ct.ct 0 0 zs = Ct.ct (tn : Int) ((k + 1 : Nat) : Int) (zs.drop (k + 1))) := HG
          clear HG
          by_cases h2 : tn = 2
          · subst h2
            go_wp2
            go_roundw
            case rel => exact ⟨k + 1, 2, 1, 2, false, _, by omega, by go_num, rfl, rfl, rfl, row_add hrow, hbel.setCell (Nat.le_refl _) _, HH.out, st_first (tn := 2) hP h0 _ (by simp)⟩
            case measure => simp [intOf]; omega
          · by_cases h3 : tn = 3
            · subst h3
              go_wp2
              go_roundw
              case rel => exact ⟨k + 1, 3, 1, 3, false, _, by omega, by go_num, rfl, rfl, rfl, row_add hrow, hbel.setCell (Nat.le_refl _) _, HH.out, st_first (tn := 3) hP h0 _ (by simp)⟩
              case measure => simp [intOf]; omega
            · have n2 : ((tn : Int) != 2) = true := by simp; omega
              have n3 : ((tn : Int) != 3) = true := by simp; omega
              go_wp2
              go_roundw
              case rel => exact ⟨k + 1, tn, 1, tn, true, _, by omega, by go_num, rfl, rfl, rfl, row_add hrow, hbel.setCell (Nat.le_refl _) _, HH.out, st_first hP h0 _ (by simp; omega)⟩
              case measure => simp [intOf]; omega
      · rw [hP tn] at hcP
        have HN : Hid (ni = !(decide (s = 2 ∨ s = 3))) := hni
        clear hni
        by_cases h0 : tn = 0
        · subst h0
          go_wp2
          go_roundw
          case rel => exact ⟨k + 1, s, 1, s, ni, P, by omega, by go_num, rfl, rfl, rfl, hrow, hbel, Ct.ct_go HC.out hd.out (Ct.stp_keep (.inl rfl)), .inr (.inl ⟨hc0, rfl, rfl, HN.out, hP⟩)⟩
          case measure => simp [intOf]; omega
        · by_cases hs : (tn : Int) = s
          · have HG : Hid (Ct.ct 0 0 zs = Ct.ct s ((k + 1 : Nat) : Int) (zs.drop (k + 1))) := Ct.ct_go HC.out hd.out (Ct.stp_keep (.inr hs))
            subst hs
            simp only [decide_true] at hcP
            go_wp2
            go_roundw
            case rel => exact ⟨k + 1, tn, 1, tn, ni, P, by omega, by go_num, rfl, rfl, rfl, hrow, hbel, HG.out, .inr (.inl ⟨hc0, rfl, rfl, HN.out, hP⟩)⟩
            case measure => simp [intOf]; omega
          · rw [decide_eq_false hs] at hcP
            by_cases hi : (s = 2 ∨ s = 3)
            · have hn : ni = false := by rw [HN.out]; simp [hi]
              clear HN
              subst hn
              by_cases ht : ((tn : Int) = 2 ∨ (tn : Int) = 3)
              · have HG : Hid (Ct.ct 0 0 zs = Ct.ct 3 ((k + 1 : Nat) : Int) (zs.drop (k + 1))) := Ct.ct_go HC.out hd.out (Ct.stp_big (by omega) hc0 ⟨ht, hi⟩)
                have HS : Hid (St 3 (fun j => decide (j = tn) || P j) 2 false s) := st_both hP hs ht hi
                rcases (show tn = 2 ∨ tn = 3 by omega) with h | h
                all_goals
                  subst h
                  clear ht
                  go_wp2
                  go_roundw
                  case rel => exact ⟨k + 1, 3, 2, s, false, _, by omega, by go_num, rfl, rfl, rfl, row_add hrow, hbel.setCell (Nat.le_refl _) _, HG.out, HS.out⟩
                  case measure => simp [intOf]; omega
              · have HG : Hid (Ct.ct 0 0 zs = (s, (k : Int))) := Ct.ct_stop HC.out hd.out (Ct.stp_no (by omega) hc0 (by omega))
                have n2 : ((tn : Int) != 2) = true := by simp; omega
                have n3 : ((tn : Int) != 3) = true := by simp; omega
                clear ht hi hP
                go_wp2
                go_ret2
                exact ⟨ret_ct HG.out, hbel.setCell (Nat.le_refl _) _⟩
            · have hn : ni = true := by rw [HN.out]; simp [hi]
              clear HN
              subst hn
              have HG : Hid (Ct.ct 0 0 zs = (s, (k : Int))) := Ct.ct_stop HC.out hd.out (Ct.stp_no (by omega) hc0 (by omega))
              clear hi hP
              go_wp2
              all_goals
                go_ret2
                exact ⟨ret_ct HG.out, hbel.setCell (Nat.le_refl _) _⟩
      · rw [hP tn] at hcP
        by_cases h0 : tn = 0
        · subst h0
          simp at hcP
          go_wp2
          go_roundw
          case rel => exact ⟨k + 1, 3, 2, s, false, P, by omega, by go_num, rfl, rfl, rfl, hrow, hbel, Ct.ct_go HC.out hd.out (Ct.stp_keep (.inl rfl)), .inr (.inr ⟨rfl, rfl, rfl, hP⟩)⟩
          case measure => simp [intOf]; omega
        · by_cases h2 : tn = 2 ∨ tn = 3
          · rw [decide_eq_true h2] at hcP
            have HG : Hid (Ct.ct 0 0 zs = Ct.ct 3 ((k + 1 : Nat) : Int) (zs.drop (k + 1))) := by
              rcases h2 with h | h
              · exact Ct.ct_go HC.out hd.out (by subst h; decide)
              · exact Ct.ct_go HC.out hd.out (by subst h; decide)
            clear h2
            go_wp2
            go_roundw
            case rel => exact ⟨k + 1, 3, 2, s, false, P, by omega, by go_num, rfl, rfl, rfl, hrow, hbel, HG.out, .inr (.inr ⟨rfl, rfl, rfl, hP⟩)⟩
            case measure => simp [intOf]; omega
          · rw [decide_eq_false h2] at hcP
            have HG : Hid (Ct.ct 0 0 zs = (3, (k : Int))) := Ct.ct_stop HC.out hd.out (Ct.stp_no (by omega) (by omega) (by omega))
            have n2 : ((tn : Int) != 2) = true := by simp; omega
            have n3 : ((tn : Int) != 3) = true := by simp; omega
            clear h2 hP
            go_wp2
            go_ret2
            exact ⟨ret_ct HG.out, hbel.setCell (Nat.le_refl _) _⟩
    · have HE : Hid (Ct.ct 0 0 zs = (if c = 0 then 4 else c, -1)) := Ct.ct_end HC.out (by omega)
      rcases hst with ⟨rfl, rfl, rfl, hP⟩ | ⟨hc0, rfl, rfl, hni, hP⟩ | ⟨rfl, rfl, rfl, hP⟩
      · go_wp2
        go_ret2
        exact ⟨ret_ct HE.out, hbel⟩
      · have HN := HE.out.trans (by rw [if_neg hc0])
        clear HE hni hP
        have HM : Hid _ := HN
        clear HN
        go_wp2
        go_ret2
        exact ⟨ret_ct HM.out, hbel⟩
      · go_wp2
        go_ret2
        exact ⟨ret_ct HE.out, hbel⟩

end Go.Proofs.Qxb6600858a
