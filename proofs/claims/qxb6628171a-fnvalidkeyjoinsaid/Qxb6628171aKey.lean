/-
  THE WALK OF validKey.
-/
import Derived.Test.Qxb6628171aTail
namespace Go.Proofs.Qxb6628171a
open Go.RowKit

/-- What validKey answers. -/
def SaysK (s : ByteArray) (w : World) (e : Ending) (w' : World) : Prop := ∃ bv : Bool, e = .returned (.bool bv) ∧ (bv = true ↔ KeyOK s) ∧ w' = w

theorem key7_empty (s : ByteArray) (w : World) (h : s.size = 0) : Calls Try.prog 7 #[.string s] w (SaysK s w) := by
  have hq : ((s.size : Int) == 0) = true := by simp [h]
  have HS : Hid (s.size = 0) := h
  clear h
  go_enter Try.func7, Try.ntmps7
  go_wp2
  go_ret
  exact ⟨_, rfl, ⟨fun h => by simp at h, fun h => by have := h.1; have := HS.out; omega⟩, rfl⟩

theorem key7_long (s : ByteArray) (w : World) (h : 255 < s.size) (hm : s.size ≤ maxLen) : Calls Try.prog 7 #[.string s] w (SaysK s w) := by
  unfold maxLen at hm
  have hq : ((s.size : Int) == 0) = false := by rw [beq_eq_false_iff_ne]; omega
  go_enter Try.func7, Try.ntmps7
  go_wp2
  go_ret
  exact ⟨_, rfl, ⟨fun h => by simp at h, fun h' => by have := h'.2.1; omega⟩, rfl⟩

set_option maxHeartbeats 4000000 in
theorem key7_in (s : ByteArray) (w : World) (h0 : 0 < s.size) (h1 : s.size ≤ 255) : Calls Try.prog 7 #[.string s] w (SaysK s w) := by
  have hq : ((s.size : Int) == 0) = false := by rw [beq_eq_false_iff_ne]; omega
  go_enter Try.func7, Try.ntmps7
  go_wp2
  go_loop [3] (fun i => ∃ k : Nat, k ≤ s.size ∧ i = .int .i64 k ∧ Hid (∀ j, j < k → Ok j (bt s j))) (fun i => s.size - (intOf i).toNat)
  case atStart => exact ⟨0, Nat.zero_le _, rfl, fun j hj => absurd hj (by omega)⟩
  case round =>
    obtain ⟨k, hk, rfl, HK⟩ := hrel
    by_cases hlt : k < s.size
    · have hl0 : (k : Int) < (s.size : Int) := by omega
      have b0 := bt_nonneg s k
      have b1 := bt_le s k
      obtain ⟨d, hd⟩ : ∃ d, d = bt s k := ⟨_, rfl⟩
      have hgb2 : ∀ (h : k < s.size), ((s[k]'h).toNat : Int) = d := fun h => by rw [hd]; exact get_bt s k h
      rw [← hd] at b0 b1
      have HD : Hid (d = bt s k) := hd
      have step : Hid (Ok k d → ∀ j, j < k + 1 → Ok j (bt s j)) := by
        intro hok j hj
        by_cases e : j < k
        · exact HK.out j e
        · obtain rfl : j = k := by omega
          rw [← HD.out]; exact hok
      have stop : Hid (¬ Ok k d → ¬ KeyOK s) := by
        intro hno h
        have := h.2.2 k hlt
        rw [← HD.out] at this
        exact hno this
      clear hd
      rcases (show (97 ≤ d ∧ d ≤ 122) ∨ (65 ≤ d ∧ d ≤ 90) ∨ (48 ≤ d ∧ d ≤ 57) ∨ d ≤ 47 ∨ (58 ≤ d ∧ d ≤ 64) ∨ (91 ≤ d ∧ d ≤ 96) ∨ 123 ≤ d by omega) with ⟨i1, i2⟩ | ⟨i1, i2⟩ | ⟨i1, i2⟩ | i1 | ⟨i1, i2⟩ | ⟨i1, i2⟩ | i1
      · have HO : Hid (Ok k d) := .inl (by unfold Alnum; omega)
        go_wp2
        go_round
        case rel => exact ⟨k + 1, by omega, by go_num, step.out HO.out⟩
        case measure => simp [intOf]; omega
      · have HO : Hid (Ok k d) := .inl (by unfold Alnum; omega)
        go_wp2
        go_round
        case rel => exact ⟨k + 1, by omega, by go_num, step.out HO.out⟩
        case measure => simp [intOf]; omega
      · have HO : Hid (Ok k d) := .inl (by unfold Alnum; omega)
        go_wp2
        go_round
        case rel => exact ⟨k + 1, by omega, by go_num, step.out HO.out⟩
        case measure => simp [intOf]; omega
      · rcases Nat.eq_zero_or_pos k with hz | hpos
        · have HO : Hid (¬ Ok k d) := by unfold Hid Ok Alnum Punct; omega
          subst hz
          go_wp2
          go_ret
          exact ⟨_, rfl, ⟨fun h => by simp at h, fun h => absurd h (stop.out HO.out)⟩, rfl⟩
        · rcases (show d = 45 ∨ d = 46 ∨ (d ≠ 45 ∧ d ≠ 46) by omega) with e | e | e
          · have HO : Hid (Ok k d) := .inr ⟨hpos, by unfold Punct; omega⟩
            have t95 : (d == 95) = false := by simp; omega
            have t45 : (d == 45) = true := by simp; omega
            have t46 : (d == 46) = false := by simp; omega
            clear e
            go_wp2
            go_round
            case rel => exact ⟨k + 1, by omega, by go_num, step.out HO.out⟩
            case measure => simp [intOf]; omega
          · have HO : Hid (Ok k d) := .inr ⟨hpos, by unfold Punct; omega⟩
            have t95 : (d == 95) = false := by simp; omega
            have t45 : (d == 45) = false := by simp; omega
            have t46 : (d == 46) = true := by simp; omega
            clear e
            go_wp2
            go_round
            case rel => exact ⟨k + 1, by omega, by go_num, step.out HO.out⟩
            case measure => simp [intOf]; omega
          · have HO : Hid (¬ Ok k d) := by unfold Hid Ok Alnum Punct; omega
            have t95 : (d == 95) = false := by simp; omega
            have t45 : (d == 45) = false := by simp; omega
            have t46 : (d == 46) = false := by simp; omega
            clear e
            go_wp2
            go_ret
            exact ⟨_, rfl, ⟨fun h => by simp at h, fun h => absurd h (stop.out HO.out)⟩, rfl⟩
      · rcases Nat.eq_zero_or_pos k with hz | hpos
        · have HO : Hid (¬ Ok k d) := by unfold Hid Ok Alnum Punct; omega
          subst hz
          go_wp2
          go_ret
          exact ⟨_, rfl, ⟨fun h => by simp at h, fun h => absurd h (stop.out HO.out)⟩, rfl⟩
        · have HO : Hid (¬ Ok k d) := by unfold Hid Ok Alnum Punct; omega
          have t95 : (d == 95) = false := by simp; omega
          have t45 : (d == 45) = false := by simp; omega
          have t46 : (d == 46) = false := by simp; omega
          go_wp2
          go_ret
          exact ⟨_, rfl, ⟨fun h => by simp at h, fun h => absurd h (stop.out HO.out)⟩, rfl⟩
      · rcases Nat.eq_zero_or_pos k with hz | hpos
        · have HO : Hid (¬ Ok k d) := by unfold Hid Ok Alnum Punct; omega
          subst hz
          go_wp2
          go_ret
          exact ⟨_, rfl, ⟨fun h => by simp at h, fun h => absurd h (stop.out HO.out)⟩, rfl⟩
        · rcases (show d = 95 ∨ (d ≠ 95) by omega) with e | e
          · have HO : Hid (Ok k d) := .inr ⟨hpos, by unfold Punct; omega⟩
            have t95 : (d == 95) = true := by simp; omega
            have t45 : (d == 45) = false := by simp; omega
            have t46 : (d == 46) = false := by simp; omega
            clear e
            go_wp2
            go_round
            case rel => exact ⟨k + 1, by omega, by go_num, step.out HO.out⟩
            case measure => simp [intOf]; omega
          · have HO : Hid (¬ Ok k d) := by unfold Hid Ok Alnum Punct; omega
            have t95 : (d == 95) = false := by simp; omega
            have t45 : (d == 45) = false := by simp; omega
            have t46 : (d == 46) = false := by simp; omega
            clear e
            go_wp2
            go_ret
            exact ⟨_, rfl, ⟨fun h => by simp at h, fun h => absurd h (stop.out HO.out)⟩, rfl⟩
      · rcases Nat.eq_zero_or_pos k with hz | hpos
        · have HO : Hid (¬ Ok k d) := by unfold Hid Ok Alnum Punct; omega
          subst hz
          go_wp2
          go_ret
          exact ⟨_, rfl, ⟨fun h => by simp at h, fun h => absurd h (stop.out HO.out)⟩, rfl⟩
        · have HO : Hid (¬ Ok k d) := by unfold Hid Ok Alnum Punct; omega
          have t95 : (d == 95) = false := by simp; omega
          have t45 : (d == 45) = false := by simp; omega
          have t46 : (d == 46) = false := by simp; omega
          go_wp2
          go_ret
          exact ⟨_, rfl, ⟨fun h => by simp at h, fun h => absurd h (stop.out HO.out)⟩, rfl⟩
    · go_wp2
      go_ret
      exact ⟨_, rfl, ⟨fun _ => ⟨h0, h1, fun j hj => HK.out j (by omega)⟩, fun _ => rfl⟩, rfl⟩

theorem key7 (s : ByteArray) (w : World) (hm : s.size ≤ maxLen) : Calls Try.prog 7 #[.string s] w (SaysK s w) := by
  rcases Nat.eq_zero_or_pos s.size with h | h
  · exact key7_empty s w h
  · by_cases h1 : s.size ≤ 255
    · exact key7_in s w h h1
    · exact key7_long s w (by omega) hm

theorem key5 (s : ByteArray) (w : World) (hm : s.size ≤ maxLen) : Calls Try.prog 5 #[.string s] w (SaysK s w) := by
  go_enter Try.func5, Try.ntmps5
  go_wp2_with fail
  refine (key7 s _ hm).mono ?_
  rintro e w ⟨bv, rfl, hiff, rfl⟩
  go_wp2
  go_ret
  exact ⟨_, rfl, hiff, rfl⟩

end Go.Proofs.Qxb6628171a
