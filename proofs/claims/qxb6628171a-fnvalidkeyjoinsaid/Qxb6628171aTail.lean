/-
  THE WALKS OF zzInSet, zzTailOK, validKey, ZZvalidKey.
-/
import Derived.Test.Qxb6628171aPlain
import Derived.Test.Qxb6628171aRows
import Derived.WalkKit
import Derived.WalkSpells
import Derived.WalkLawsBesides
namespace Go.Proofs.Qxb6628171a
open Go.RowKit

set_option maxHeartbeats 400000 in
theorem inset8_yes (t : ByteArray) (c : Int) (w : World) (h : t.size ≤ 1048576) (hin : InSet t c) :
    Calls Try.prog 8 #[.string t, .int .u8 c] w fun e w' => e = .returned (.bool true) ∧ w' = w := by
  have HI : Hid (InSet t c) := hin
  clear hin
  go_enter Try.func8, Try.ntmps8
  go_wp2
  go_loop [5] (fun i => ∃ k : Nat, k ≤ t.size ∧ i = .int .i64 k ∧ Hid (∀ j, j < k → bt t j ≠ c)) (fun i => t.size - (intOf i).toNat)
  case atStart => exact ⟨0, Nat.zero_le _, rfl, fun j hj => absurd hj (by omega)⟩
  case round =>
    obtain ⟨k, hk, rfl, HK⟩ := hrel
    by_cases hlt : k < t.size
    · have hl0 : (k : Int) < (t.size : Int) := by omega
      obtain ⟨d, hd⟩ : ∃ d, d = bt t k := ⟨_, rfl⟩
      have hgb2 : ∀ (h : k < t.size), ((t[k]'h).toNat : Int) = d := fun h => by rw [hd]; exact get_bt t k h
      have HD : Hid (d = bt t k) := hd
      clear hd
      by_cases he : d = c
      · have ht : (d == c) = true := by simpa using he
        clear he
        go_wp2
        go_ret
        exact ⟨rfl, rfl⟩
      · have ht : (d == c) = false := by simpa using he
        have HE : Hid (¬ d = c) := he
        clear he
        go_wp2
        go_round
        case rel =>
          refine ⟨k + 1, by omega, by go_num, fun j hj => ?_⟩
          by_cases e : j < k
          · exact HK.out j e
          · obtain rfl : j = k := by omega
            rw [← HD.out]
            exact HE.out
        case measure => simp [intOf]; omega
    · obtain ⟨i, hi, hb⟩ := HI.out
      exact absurd hb (HK.out i (by omega))

set_option maxHeartbeats 400000 in
theorem inset8_no (t : ByteArray) (c : Int) (w : World) (h : t.size ≤ 1048576) (hin : ¬ InSet t c) :
    Calls Try.prog 8 #[.string t, .int .u8 c] w fun e w' => e = .returned (.bool false) ∧ w' = w := by
  have HI : Hid (¬ InSet t c) := hin
  clear hin
  go_enter Try.func8, Try.ntmps8
  go_wp2
  go_loop [5] (fun i => ∃ k : Nat, k ≤ t.size ∧ i = .int .i64 k) (fun i => t.size - (intOf i).toNat)
  case atStart => exact ⟨0, Nat.zero_le _, rfl⟩
  case round =>
    obtain ⟨k, hk, rfl⟩ := hrel
    by_cases hlt : k < t.size
    · have hl0 : (k : Int) < (t.size : Int) := by omega
      obtain ⟨d, hd⟩ : ∃ d, d = bt t k := ⟨_, rfl⟩
      have hgb2 : ∀ (h : k < t.size), ((t[k]'h).toNat : Int) = d := fun h => by rw [hd]; exact get_bt t k h
      have ht : (d == c) = false := by
        simp only [beq_eq_false_iff_ne, ne_eq]
        intro e
        exact HI.out ⟨k, hlt, by rw [← hd]; exact e⟩
      clear hd
      go_wp2
      go_round
      case rel => exact ⟨k + 1, by omega, by go_num⟩
      case measure => simp [intOf]; omega
    · go_wp2
      go_ret
      exact ⟨rfl, rfl⟩

theorem bytes256 {P : Int → Prop} (h : ∀ n : Fin 256, P (n.val : Int)) (b : Int) (h0 : 0 ≤ b) (h1 : b ≤ 255) : P b := by
  have := h ⟨b.toNat, by omega⟩
  rwa [show ((b.toNat : Nat) : Int) = b by omega] at this
theorem alnum_set (c : Int) (h0 : 0 ≤ c) (h1 : c ≤ 255) : InSet ⟨#[65, 66, 67, 68, 69, 70, 71, 72, 73, 74, 75, 76, 77, 78, 79, 80, 81, 82, 83, 84, 85, 86, 87, 88, 89, 90, 97, 98, 99, 100, 101, 102, 103, 104, 105, 106, 107, 108, 109, 110, 111, 112, 113, 114, 115, 116, 117, 118, 119, 120, 121, 122, 48, 49, 50, 51, 52, 53, 54, 55, 56, 57]⟩ c ↔ Alnum c :=
  bytes256 (P := fun c => (∃ i, i < 62 ∧ bt ⟨#[65, 66, 67, 68, 69, 70, 71, 72, 73, 74, 75, 76, 77, 78, 79, 80, 81, 82, 83, 84, 85, 86, 87, 88, 89, 90, 97, 98, 99, 100, 101, 102, 103, 104, 105, 106, 107, 108, 109, 110, 111, 112, 113, 114, 115, 116, 117, 118, 119, 120, 121, 122, 48, 49, 50, 51, 52, 53, 54, 55, 56, 57]⟩ i = c) ↔ ((97 ≤ c ∧ c ≤ 122) ∨ (65 ≤ c ∧ c ≤ 90) ∨ (48 ≤ c ∧ c ≤ 57))) (by decide +kernel) c h0 h1
theorem punct_set (c : Int) (h0 : 0 ≤ c) (h1 : c ≤ 255) : InSet ⟨#[95, 45, 46]⟩ c ↔ Punct c :=
  bytes256 (P := fun c => (∃ i, i < 3 ∧ bt ⟨#[95, 45, 46]⟩ i = c) ↔ (c = 95 ∨ c = 45 ∨ c = 46)) (by decide +kernel) c h0 h1

/-- What zzTailOK answers. -/
def SaysT (s : ByteArray) (w : World) (e : Ending) (w' : World) : Prop := ∃ bv : Bool, e = .returned (.bool bv) ∧ (bv = true ↔ TailOK s) ∧ w' = w

set_option maxHeartbeats 1000000 in
theorem tail6 (s : ByteArray) (w : World) (h : s.size ≤ 1048576) : Calls Try.prog 6 #[.string s] w (SaysT s w) := by
  go_enter Try.func6, Try.ntmps6
  go_wp2
  go_loop [3] (fun i => ∃ k : Nat, k ≤ s.size ∧ i = .int .i64 k ∧ Hid (∀ j, j < k → Alnum (bt s j) ∨ Punct (bt s j))) (fun i => s.size - (intOf i).toNat)
  case atStart => exact ⟨0, Nat.zero_le _, rfl, fun j hj => absurd hj (by omega)⟩
  case round =>
    obtain ⟨k, hk, rfl, HK⟩ := hrel
    by_cases hlt : k < s.size
    · have hl0 : (k : Int) < (s.size : Int) := by omega
      have b0 := bt_nonneg s k
      have b1 := bt_le s k
      obtain ⟨d, hd⟩ : ∃ d, d = bt s k := ⟨_, rfl⟩
      have hgb2 : ∀ (h : k < s.size), ((s[k]'h).toNat : Int) = d := fun h => by rw [hd]; exact get_bt s k h
      rw [← hd] at b0 b1
      have HD : Hid (d = bt s k) := hd
      have step : Hid (Alnum d ∨ Punct d → ∀ j, j < k + 1 → Alnum (bt s j) ∨ Punct (bt s j)) := by
        intro hok j hj
        by_cases e : j < k
        · exact HK.out j e
        · obtain rfl : j = k := by omega
          rw [← HD.out]; exact hok
      clear hd
      by_cases ha : InSet ⟨#[65, 66, 67, 68, 69, 70, 71, 72, 73, 74, 75, 76, 77, 78, 79, 80, 81, 82, 83, 84, 85, 86, 87, 88, 89, 90, 97, 98, 99, 100, 101, 102, 103, 104, 105, 106, 107, 108, 109, 110, 111, 112, 113, 114, 115, 116, 117, 118, 119, 120, 121, 122, 48, 49, 50, 51, 52, 53, 54, 55, 56, 57]⟩ d
      · go_wp2_with fail
        refine (inset8_yes _ _ _ (by decide +kernel) ha).mono ?_
        rintro e w ⟨rfl, rfl⟩
        have HA : Hid (Alnum d) := (alnum_set d b0 b1).1 ha
        clear ha
        go_wp2
        go_round
        case rel => exact ⟨k + 1, by omega, by go_num, step.out (.inl HA.out)⟩
        case measure => simp [intOf]; omega
      · go_wp2_with fail
        refine (inset8_no _ _ _ (by decide +kernel) ha).mono ?_
        rintro e w ⟨rfl, rfl⟩
        have HA : Hid (¬ Alnum d) := fun h => ha ((alnum_set d b0 b1).2 h)
        clear ha
        by_cases hp : InSet ⟨#[95, 45, 46]⟩ d
        · go_wp2_with fail
          refine (inset8_yes _ _ _ (by decide +kernel) hp).mono ?_
          rintro e w ⟨rfl, rfl⟩
          have HP : Hid (Punct d) := (punct_set d b0 b1).1 hp
          clear hp
          go_wp2
          go_round
          case rel => exact ⟨k + 1, by omega, by go_num, step.out (.inr HP.out)⟩
          case measure => simp [intOf]; omega
        · go_wp2_with fail
          refine (inset8_no _ _ _ (by decide +kernel) hp).mono ?_
          rintro e w ⟨rfl, rfl⟩
          have HP : Hid (¬ Punct d) := fun h => hp ((punct_set d b0 b1).2 h)
          clear hp
          go_wp2
          go_ret
          refine ⟨_, rfl, ⟨fun h => by simp at h, fun h => ?_⟩, rfl⟩
          have := h k hlt
          rw [← HD.out] at this
          rcases this with h | h
          · exact absurd h HA.out
          · exact absurd h HP.out
    · go_wp2
      go_ret
      exact ⟨_, rfl, ⟨fun _ j hj => HK.out j (by omega), fun _ => rfl⟩, rfl⟩

end Go.Proofs.Qxb6628171a
