/-
  THE PLAIN SIDE: flag keys. No Go in sight.
-/
import Derived.WalkKit
namespace Go.Proofs.Qxb6628171a
open Go.RowKit

/-- Byte k of a text, as a number; 0 behind its end. -/
def bt (s : ByteArray) (k : Nat) : Int := if h : k < s.size then ((s[k]'h).toNat : Int) else 0
theorem bt_nonneg (s : ByteArray) (k : Nat) : 0 ≤ bt s k := by unfold bt; split <;> omega
theorem bt_le (s : ByteArray) (k : Nat) : bt s k ≤ 255 := by
  unfold bt; split
  · have := (s[k]).toNat_lt; omega
  · omega
theorem get_bt (s : ByteArray) : ∀ (n : Nat) (h : n < s.size), ((s[n]'h).toNat : Int) = bt s n := fun n h => by unfold bt; rw [dif_pos h]

def Alnum (c : Int) : Prop := (97 ≤ c ∧ c ≤ 122) ∨ (65 ≤ c ∧ c ≤ 90) ∨ (48 ≤ c ∧ c ≤ 57)
def Punct (c : Int) : Prop := c = 95 ∨ c = 45 ∨ c = 46
/-- May byte c stand at place i of a key? -/
def Ok (i : Nat) (c : Int) : Prop := Alnum c ∨ (0 < i ∧ Punct c)

def KeyOK (s : ByteArray) : Prop := 0 < s.size ∧ s.size ≤ 255 ∧ ∀ i, i < s.size → Ok i (bt s i)
def TailOK (s : ByteArray) : Prop := ∀ i, i < s.size → Alnum (bt s i) ∨ Punct (bt s i)

theorem bt_append_left (a b : ByteArray) (i : Nat) (h : i < a.size) : bt (a ++ b) i = bt a i := by
  have h1 : i < (a ++ b).size := by rw [ByteArray.size_append]; omega
  unfold bt
  rw [dif_pos h1, dif_pos h]
  congr 2
  exact ByteArray.getElem_append_left h
theorem bt_append_right (a b : ByteArray) (i : Nat) (h0 : a.size ≤ i) (h : i < a.size + b.size) : bt (a ++ b) i = bt b (i - a.size) := by
  have h1 : i < (a ++ b).size := by rw [ByteArray.size_append]; omega
  have h2 : i - a.size < b.size := by omega
  unfold bt
  rw [dif_pos h1, dif_pos h2]
  congr 2
  exact ByteArray.getElem_append_right h0

/-- The one-byte key in front of the tail. -/
def one : ByteArray := ⟨#[97]⟩
theorem one_size : one.size = 1 := rfl
theorem one_bt : bt one 0 = 97 := by decide +kernel

theorem law_tail (b : ByteArray) : KeyOK (one ++ b) ↔ b.size < 255 ∧ TailOK b := by
  have hsz : (one ++ b).size = 1 + b.size := by rw [ByteArray.size_append, one_size]
  constructor
  · rintro ⟨_, h2, h3⟩
    refine ⟨by omega, fun i hi => ?_⟩
    have := h3 (i + 1) (by omega)
    rw [bt_append_right one b (i + 1) (by rw [one_size]; omega) (by rw [one_size]; omega), one_size] at this
    rcases this with h | ⟨_, h⟩
    · exact .inl h
    · exact .inr h
  · rintro ⟨h1, h2⟩
    refine ⟨by omega, by omega, fun i hi => ?_⟩
    rcases Nat.eq_zero_or_pos i with rfl | hp
    · rw [bt_append_left one b 0 (by rw [one_size]; omega), one_bt]
      exact .inl (.inl ⟨by omega, by omega⟩)
    · rw [bt_append_right one b i (by rw [one_size]; omega) (by rw [one_size]; omega), one_size]
      rcases h2 (i - 1) (by omega) with h | h
      · exact .inl h
      · exact .inr ⟨hp, h⟩

theorem law_join (a b : ByteArray) (ha : 0 < a.size) : KeyOK (a ++ b) ↔ a.size + b.size ≤ 255 ∧ KeyOK a ∧ KeyOK (one ++ b) := by
  rw [law_tail]
  have hsz : (a ++ b).size = a.size + b.size := ByteArray.size_append
  constructor
  · rintro ⟨_, h2, h3⟩
    refine ⟨by omega, ⟨ha, by omega, fun i hi => ?_⟩, by omega, fun i hi => ?_⟩
    · have := h3 i (by omega)
      rw [bt_append_left a b i hi] at this
      exact this
    · have := h3 (a.size + i) (by omega)
      rw [bt_append_right a b (a.size + i) (by omega) (by omega), show a.size + i - a.size = i by omega] at this
      rcases this with h | ⟨_, h⟩
      · exact .inl h
      · exact .inr h
  · rintro ⟨h1, ⟨_, _, h3⟩, _, h4⟩
    refine ⟨by omega, by omega, fun i hi => ?_⟩
    by_cases h : i < a.size
    · rw [bt_append_left a b i h]; exact h3 i h
    · rw [bt_append_right a b i (by omega) (by omega)]
      rcases h4 (i - a.size) (by omega) with h5 | h5
      · exact .inl h5
      · exact .inr ⟨by omega, h5⟩

/-- Is c one of the set's bytes? -/
def InSet (t : ByteArray) (c : Int) : Prop := ∃ i, i < t.size ∧ bt t i = c

end Go.Proofs.Qxb6628171a
