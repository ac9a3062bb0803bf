/-
  THE PLAIN SIDE: bytes, half-octets, what EncodeBCD lays. No Go in sight.
-/
import Derived.WalkKit
namespace Go.Proofs.Qxb6627853a
open Go.RowKit

/-- Byte k of a text, as a number; 0 behind its end. -/
def bt (s : ByteArray) (k : Nat) : Int := if h : k < s.size then ((s[k]'h).toNat : Int) else 0
theorem bt_nonneg (s : ByteArray) (k : Nat) : 0 ≤ bt s k := by unfold bt; split <;> omega
theorem bt_le (s : ByteArray) (k : Nat) : bt s k ≤ 255 := by
  unfold bt; split
  · have := (s[k]).toNat_lt; omega
  · omega

/-- A row of m numbers in memory. -/
def rowOf (m : Nat) (F : Nat → Int) : Array Value := ((List.range m).map fun j => Value.int .u8 (F j)).toArray
theorem rowOf_size (m : Nat) (F : Nat → Int) : (rowOf m F).size = m := by simp [rowOf]
theorem rowOf_at (m : Nat) (F : Nat → Int) (j : Nat) (h : j < m) : (rowOf m F)[j]? = some (.int .u8 (F j)) := by simp [rowOf, h]
theorem rowOf_set (m : Nat) (F G : Nat → Int) (j : Nat) (x : Int) (hx : G j = x) (hG : ∀ t, t < m → t ≠ j → G t = F t) : (rowOf m F).setIfInBounds j (.int .u8 x) = rowOf m G := by
  apply Array.ext_getElem?
  intro t
  rw [Array.getElem?_setIfInBounds]
  by_cases ht : t < m
  · by_cases e : j = t
    · subst e
      rw [if_pos rfl, rowOf_size, if_pos ht, rowOf_at m G j ht, hx]
    · rw [if_neg e, rowOf_at m F t ht, rowOf_at m G t ht, hG t ht (fun h => e h.symm)]
  · have h1 : (rowOf m F)[t]? = none := Array.getElem?_eq_none (by rw [rowOf_size]; omega)
    have h2 : (rowOf m G)[t]? = none := Array.getElem?_eq_none (by rw [rowOf_size]; omega)
    by_cases e : j = t
    · subst e
      rw [if_pos rfl, rowOf_size, if_neg ht, h2]
    · rw [if_neg e, h1, h2]
theorem rowOf_congr (m : Nat) (F G : Nat → Int) (h : ∀ t, t < m → F t = G t) : rowOf m F = rowOf m G := by
  unfold rowOf
  congr 1
  apply List.map_congr_left
  intro t ht
  rw [h t (by simpa using ht)]

/-- What octet j holds when k digits are laid. -/
def octet (s : ByteArray) (k j : Nat) : Int :=
  if 2 * j + 1 < k then bt s (2 * j) % 16 + 16 * (bt s (2 * j + 1) % 16) else if 2 * j < k then 240 + bt s (2 * j) % 16 else 255

theorem octet_even (s : ByteArray) (j : Nat) : octet s (2 * j) j = 255 := by unfold octet; rw [if_neg (by omega), if_neg (by omega)]
theorem octet_odd (s : ByteArray) (j : Nat) : octet s (2 * j + 1) j = 240 + bt s (2 * j) % 16 := by unfold octet; rw [if_neg (by omega), if_pos (by omega)]
theorem octet_full (s : ByteArray) (j : Nat) : octet s (2 * j + 2) j = bt s (2 * j) % 16 + 16 * (bt s (2 * j + 1) % 16) := by unfold octet; rw [if_pos (by omega)]
theorem octet_other_even (s : ByteArray) (j t : Nat) (h : t ≠ j) : octet s (2 * j + 1) t = octet s (2 * j) t := by
  unfold octet
  by_cases h1 : 2 * t + 1 < 2 * j
  · rw [if_pos h1, if_pos (by omega)]
  · rw [if_neg h1, if_neg (by omega)]
    by_cases h2 : 2 * t < 2 * j
    · rw [if_pos h2, if_pos (by omega)]
    · rw [if_neg h2, if_neg (by omega)]
theorem octet_other_odd (s : ByteArray) (j t : Nat) (h : t ≠ j) : octet s (2 * j + 2) t = octet s (2 * j + 1) t := by
  unfold octet
  by_cases h1 : 2 * t + 1 < 2 * j + 1
  · rw [if_pos h1, if_pos (by omega)]
  · rw [if_neg h1, if_neg (by omega)]
    by_cases h2 : 2 * t < 2 * j + 1
    · omega
    · rw [if_neg h2, if_neg (by omega)]

end Go.Proofs.Qxb6627853a
