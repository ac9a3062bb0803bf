/-
  THE WALKS OF zzNib AND zzHalves.
-/
import Derived.Test.Qxb6627853aEnc
namespace Go.Proofs.Qxb6627853a
open Go.RowKit

/-- Block g holds the code of s. -/
def Row (w : World) (g m : Nat) (s : ByteArray) : Prop := m = (s.size + 1) / 2 ∧ w.heap[g]? = some (.cells (rowOf m (octet s s.size)) 5 (0, 0))

theorem Row.keep {w w' : World} {g m : Nat} {s : ByteArray} (h : Row w g m s) (hb : Below w.heap.size w w') : Row w' g m s :=
  ⟨h.1, by rw [hb.block g (Array.getElem?_eq_some_iff.1 h.2).1]; exact h.2⟩
theorem Row.drewN {w : World} {g m : Nat} {s : ByteArray} (h : Row w g m s) (n : Nat) : Row (w.drewN n) g m s := h

/-- The i-th half-octet of the code of s: its i-th byte's low half; the filler behind the last. -/
def nibv (s : ByteArray) (i : Nat) : Int := if i < s.size then bt s i % 16 else 15

theorem octet_range (s : ByteArray) (k j : Nat) : 0 ≤ octet s k j ∧ octet s k j ≤ 255 := by
  unfold octet
  split
  · omega
  · split <;> omega
theorem octet_low (s : ByteArray) (j : Nat) (h : 2 * j < s.size) : octet s s.size j % 16 = nibv s (2 * j) := by
  unfold octet nibv
  rw [if_pos h]
  split
  · omega
  · omega
theorem octet_high (s : ByteArray) (j : Nat) (h : 2 * j + 1 ≤ s.size) : octet s s.size j / 16 = nibv s (2 * j + 1) := by
  unfold octet nibv
  by_cases e : 2 * j + 1 < s.size
  · rw [if_pos e, if_pos e]; omega
  · rw [if_neg e, if_neg e, if_pos (by omega)]; omega

theorem ret_u8 {a b : Int} (h : a = b) : Ending.returned (.int .u8 a) = .returned (.int .u8 b) := by rw [h]

set_option maxHeartbeats 400000 in
theorem nib8 {g m i : Nat} {s : ByteArray} {w : World} (h : Row w g m s) (hs : s.size ≤ 1048576) (hi : i < s.size ∨ (i = s.size ∧ i % 2 = 1)) :
    Calls Try.prog 8 #[.slice (some ⟨g, 0, none⟩) m m, .int .i64 i] w fun e w' => e = .returned (.int .u8 (nibv s i)) ∧ w' = w := by
  obtain ⟨hm, hb⟩ := h
  rcases Nat.mod_two_eq_zero_or_one i with he | he
  · obtain ⟨j, rfl⟩ : ∃ j, i = 2 * j := ⟨i / 2, by omega⟩
    have hj : j < m := by omega
    have hj0 : (j : Int) < (m : Int) := by omega
    obtain ⟨c0, _⟩ := bcell hb j hj
    have hr := octet_range s s.size j
    have HE : Hid (octet s s.size j % 16 = nibv s (2 * j)) := octet_low s j (by omega)
    obtain ⟨x, hx⟩ : ∃ x, x = octet s s.size j := ⟨_, rfl⟩
    rw [← hx] at c0 hr HE
    have hm2 : m ≤ 524288 := by omega
    clear hm hb he hi hx
    go_enter Try.func8, Try.ntmps8
    go_wp2
    go_ret
    exact ⟨ret_u8 HE.out, rfl⟩
  · obtain ⟨j, rfl⟩ : ∃ j, i = 2 * j + 1 := ⟨i / 2, by omega⟩
    have hj : j < m := by omega
    have hj0 : (j : Int) < (m : Int) := by omega
    obtain ⟨c0, _⟩ := bcell hb j hj
    have hr := octet_range s s.size j
    have HE : Hid (octet s s.size j / 16 = nibv s (2 * j + 1)) := octet_high s j (by omega)
    obtain ⟨x, hx⟩ : ∃ x, x = octet s s.size j := ⟨_, rfl⟩
    rw [← hx] at c0 hr HE
    have hm2 : m ≤ 524288 := by omega
    have eq2 : (2 * j + 1) / 2 = j := by omega
    clear hm hb he hi hx
    go_enter Try.func8, Try.ntmps8
    go_wp2
    go_ret
    exact ⟨ret_u8 HE.out, rfl⟩

theorem ret_i64 {a b : Int} (h : a = b) : Ending.returned (.int .i64 a) = .returned (.int .i64 b) := by rw [h]
set_option maxHeartbeats 400000 in
theorem halves7 (n : Int) (w : World) (h0 : 0 ≤ n) (h1 : n ≤ 1048576) :
    Calls Try.prog 7 #[.int .i64 n] w fun e w' => e = .returned (.int .i64 ((n + 1) / 2)) ∧ w' = w := by
  go_enter Try.func7, Try.ntmps7
  go_wp2
  go_ret
  exact ⟨ret_i64 (by omega), rfl⟩

end Go.Proofs.Qxb6627853a
