/-
  THE WALK OF FnValidKeyJoin.
-/
import Derived.Test.Qxb6628171aKey
namespace Go.Proofs.Qxb6628171a
open Go.RowKit

theorem bytes4 (a b : ByteArray) (w : World) (h : a.size + b.size ≤ 1048576) : Calls Try.prog 4 #[.string a, .string b] w fun e w' => e = .returned (.bool true) ∧ w' = w := by
  go_enter Try.func4, Try.ntmps4
  go_wp2
  go_ret
  exact ⟨rfl, rfl⟩
theorem bytes4_no (a b : ByteArray) (w : World) (h : 1048576 < a.size + b.size) (hm : a.size ≤ maxLen) (hn : b.size ≤ maxLen) : Calls Try.prog 4 #[.string a, .string b] w fun e w' => e = .returned (.bool false) ∧ w' = w := by
  unfold maxLen at hm hn
  go_enter Try.func4, Try.ntmps4
  go_wp2
  all_goals
    go_ret
    exact ⟨rfl, rfl⟩

theorem join_long (a b : ByteArray) (w : World) (h : 1048576 < a.size + b.size) (hm : a.size ≤ maxLen) (hn : b.size ≤ maxLen) : Calls Try.prog 3 #[.string a, .string b] w fun e w' => e = .returned (.bool true) ∧ Below w.heap.size w w' := by
  go_enter Try.func3, Try.ntmps3
  go_wp2_with fail
  refine (bytes4_no _ _ _ h hm hn).mono ?_
  rintro e w ⟨rfl, rfl⟩
  go_wp2
  go_ret
  exact ⟨rfl, Below.refl _ _⟩

theorem bool_eq {x y : Bool} {p : Prop} (h1 : x = true ↔ p) (h2 : y = true ↔ p) : x = y := by rw [Bool.eq_iff_iff, h1, h2]
theorem bool_no {x : Bool} {p : Prop} (h1 : x = true ↔ p) (h2 : ¬ p) : x = false := by
  cases x
  · rfl
  · exact absurd (h1.1 rfl) h2
theorem empty_join (a b : ByteArray) (h : a.size = 0) : a ++ b = b := by
  have : a = ByteArray.empty := ByteArray.ext_getElem (by simpa using h) (fun i h1 _ => by omega)
  rw [this]
  simp
theorem isEmpty_of {a : ByteArray} (h : a.size = 0) : a.toList.isEmpty = true := by
  have : a = ByteArray.empty := ByteArray.ext_getElem (by simpa using h) (fun i h1 _ => by omega)
  rw [this]
  simp
theorem not_isEmpty_of {a : ByteArray} (h : 0 < a.size) : a.toList.isEmpty = false := by
  rw [ByteArray.toList_eq]
  have : a.data.toList.length = a.size := by simp
  cases hl : a.data.toList with
  | nil => rw [hl] at this; simp at this; omega
  | cons _ _ => rfl

set_option maxHeartbeats 1000000 in
set_option maxRecDepth 20000 in
theorem join_empty_short (a b : ByteArray) (w : World) (h : a.size + b.size ≤ 1048576) (ha : a.size = 0) (hb : b.size < 255) : Calls Try.prog 3 #[.string a, .string b] w fun e w' => e = .returned (.bool true) ∧ Below w.heap.size w w' := by
  have s1 : (a ++ b).size ≤ maxLen := by rw [ByteArray.size_append]; unfold maxLen; omega
  have s2 : (one ++ b).size ≤ maxLen := by rw [ByteArray.size_append, one_size]; unfold maxLen; omega
  have s3 : a.size ≤ maxLen := by unfold maxLen; omega
  have s4 : b.size ≤ maxLen := by unfold maxLen; omega
  have S1 : Hid ((a ++ b).size ≤ maxLen) := s1
  have S2 : Hid ((one ++ b).size ≤ maxLen) := s2
  have S3 : Hid (a.size ≤ maxLen) := s3
  have S4 : Hid (b.size ≤ maxLen) := s4
  clear s1 s2 s3 s4
  have he : a.toList.isEmpty = true := isEmpty_of ha
  have HA : Hid (a.size = 0) := ha
  clear ha
  go_enter Try.func3, Try.ntmps3
  go_wp2_with fail
  refine (bytes4 _ _ _ h).mono ?_
  rintro e w ⟨rfl, rfl⟩
  go_wp2_with fail
  refine (key5 (a ++ b) _ S1.out).mono ?_
  rintro e w ⟨g, rfl, hg, rfl⟩
  have HG : Hid (g = true ↔ KeyOK (a ++ b)) := hg
  clear hg
  go_wp2_with fail
  refine (key5 a _ S3.out).mono ?_
  rintro e w ⟨hd, rfl, hhd, rfl⟩
  have HH : Hid (hd = true ↔ KeyOK a) := hhd
  clear hhd
  go_wp2_with fail
  refine (key5 (one ++ b) _ S2.out).mono ?_
  rintro e w ⟨tl, rfl, htl, rfl⟩
  have HT : Hid (tl = true ↔ KeyOK (one ++ b)) := htl
  clear htl
  go_wp2_with fail
  refine (tail6 b _ (by omega)).mono ?_
  rintro e w ⟨tw, rfl, htw, rfl⟩
  have ew : tw = tl := bool_eq (p := TailOK b) htw (HT.out.trans ((law_tail b).trans ⟨fun x => x.2, fun x => ⟨hb, x⟩⟩))
  clear htw
  rw [ew]
  clear ew
  go_wp2_with fail
  refine (key5 b _ S4.out).mono ?_
  rintro e w ⟨kb, rfl, hkb, rfl⟩
  have ek : kb = g := by
    have := HG.out
    rw [empty_join a b HA.out] at this
    exact bool_eq hkb this
  rw [ek]
  clear hkb ek
  go_wp2
  go_ret
  exact ⟨rfl, Below.refl _ _⟩

set_option maxHeartbeats 1000000 in
set_option maxRecDepth 20000 in
theorem join_empty_long (a b : ByteArray) (w : World) (h : a.size + b.size ≤ 1048576) (ha : a.size = 0) (hb : ¬ b.size < 255) : Calls Try.prog 3 #[.string a, .string b] w fun e w' => e = .returned (.bool true) ∧ Below w.heap.size w w' := by
  have s1 : (a ++ b).size ≤ maxLen := by rw [ByteArray.size_append]; unfold maxLen; omega
  have s2 : (one ++ b).size ≤ maxLen := by rw [ByteArray.size_append, one_size]; unfold maxLen; omega
  have s3 : a.size ≤ maxLen := by unfold maxLen; omega
  have s4 : b.size ≤ maxLen := by unfold maxLen; omega
  have S1 : Hid ((a ++ b).size ≤ maxLen) := s1
  have S2 : Hid ((one ++ b).size ≤ maxLen) := s2
  have S3 : Hid (a.size ≤ maxLen) := s3
  have S4 : Hid (b.size ≤ maxLen) := s4
  clear s1 s2 s3 s4
  have he : a.toList.isEmpty = true := isEmpty_of ha
  have HA : Hid (a.size = 0) := ha
  clear ha
  go_enter Try.func3, Try.ntmps3
  go_wp2_with fail
  refine (bytes4 _ _ _ h).mono ?_
  rintro e w ⟨rfl, rfl⟩
  go_wp2_with fail
  refine (key5 (a ++ b) _ S1.out).mono ?_
  rintro e w ⟨g, rfl, hg, rfl⟩
  have HG : Hid (g = true ↔ KeyOK (a ++ b)) := hg
  clear hg
  go_wp2_with fail
  refine (key5 a _ S3.out).mono ?_
  rintro e w ⟨hd, rfl, hhd, rfl⟩
  have HH : Hid (hd = true ↔ KeyOK a) := hhd
  clear hhd
  go_wp2_with fail
  refine (key5 (one ++ b) _ S2.out).mono ?_
  rintro e w ⟨tl, rfl, htl, rfl⟩
  have HT : Hid (tl = true ↔ KeyOK (one ++ b)) := htl
  clear htl
  have ew : tl = false := bool_no HT.out (fun x => hb ((law_tail b).1 x).1)
  rw [ew]
  go_wp2_with fail
  refine (key5 b _ S4.out).mono ?_
  rintro e w ⟨kb, rfl, hkb, rfl⟩
  have ek : kb = g := by
    have := HG.out
    rw [empty_join a b HA.out] at this
    exact bool_eq hkb this
  rw [ek]
  clear hkb ek
  go_wp2
  go_ret
  exact ⟨rfl, Below.refl _ _⟩

set_option maxHeartbeats 1000000 in
set_option maxRecDepth 20000 in
theorem join_in_short (a b : ByteArray) (w : World) (h : a.size + b.size ≤ 1048576) (ha : 0 < a.size) (hb : b.size < 255) (hab : a.size + b.size ≤ 255) : Calls Try.prog 3 #[.string a, .string b] w fun e w' => e = .returned (.bool true) ∧ Below w.heap.size w w' := by
  have s1 : (a ++ b).size ≤ maxLen := by rw [ByteArray.size_append]; unfold maxLen; omega
  have s2 : (one ++ b).size ≤ maxLen := by rw [ByteArray.size_append, one_size]; unfold maxLen; omega
  have s3 : a.size ≤ maxLen := by unfold maxLen; omega
  have s4 : b.size ≤ maxLen := by unfold maxLen; omega
  have S1 : Hid ((a ++ b).size ≤ maxLen) := s1
  have S2 : Hid ((one ++ b).size ≤ maxLen) := s2
  have S3 : Hid (a.size ≤ maxLen) := s3
  have S4 : Hid (b.size ≤ maxLen) := s4
  clear s1 s2 s3 s4
  have he : a.toList.isEmpty = false := not_isEmpty_of ha
  go_enter Try.func3, Try.ntmps3
  go_wp2_with fail
  refine (bytes4 _ _ _ h).mono ?_
  rintro e w ⟨rfl, rfl⟩
  go_wp2_with fail
  refine (key5 (a ++ b) _ S1.out).mono ?_
  rintro e w ⟨g, rfl, hg, rfl⟩
  have HG : Hid (g = true ↔ KeyOK (a ++ b)) := hg
  clear hg
  go_wp2_with fail
  refine (key5 a _ S3.out).mono ?_
  rintro e w ⟨hd, rfl, hhd, rfl⟩
  have HH : Hid (hd = true ↔ KeyOK a) := hhd
  clear hhd
  go_wp2_with fail
  refine (key5 (one ++ b) _ S2.out).mono ?_
  rintro e w ⟨tl, rfl, htl, rfl⟩
  have HT : Hid (tl = true ↔ KeyOK (one ++ b)) := htl
  clear htl
  go_wp2_with fail
  refine (tail6 b _ (by omega)).mono ?_
  rintro e w ⟨tw, rfl, htw, rfl⟩
  have ew : tw = tl := bool_eq (p := TailOK b) htw (HT.out.trans ((law_tail b).trans ⟨fun x => x.2, fun x => ⟨hb, x⟩⟩))
  clear htw
  rw [ew]
  clear ew
  have eg : g = (hd && tl) := by
    have hj := law_join a b ha
    rw [Bool.eq_iff_iff, Bool.and_eq_true, HG.out, HH.out, HT.out, hj]
    exact ⟨fun x => x.2, fun x => ⟨hab, x⟩⟩
  rw [eg]
  clear eg
  cases hd <;> cases tl
  all_goals
    go_wp2
    go_ret
    exact ⟨rfl, Below.refl _ _⟩

set_option maxHeartbeats 1000000 in
set_option maxRecDepth 20000 in
theorem join_out_short (a b : ByteArray) (w : World) (h : a.size + b.size ≤ 1048576) (ha : 0 < a.size) (hb : b.size < 255) (hab : ¬ a.size + b.size ≤ 255) : Calls Try.prog 3 #[.string a, .string b] w fun e w' => e = .returned (.bool true) ∧ Below w.heap.size w w' := by
  have s1 : (a ++ b).size ≤ maxLen := by rw [ByteArray.size_append]; unfold maxLen; omega
  have s2 : (one ++ b).size ≤ maxLen := by rw [ByteArray.size_append, one_size]; unfold maxLen; omega
  have s3 : a.size ≤ maxLen := by unfold maxLen; omega
  have s4 : b.size ≤ maxLen := by unfold maxLen; omega
  have S1 : Hid ((a ++ b).size ≤ maxLen) := s1
  have S2 : Hid ((one ++ b).size ≤ maxLen) := s2
  have S3 : Hid (a.size ≤ maxLen) := s3
  have S4 : Hid (b.size ≤ maxLen) := s4
  clear s1 s2 s3 s4
  have he : a.toList.isEmpty = false := not_isEmpty_of ha
  go_enter Try.func3, Try.ntmps3
  go_wp2_with fail
  refine (bytes4 _ _ _ h).mono ?_
  rintro e w ⟨rfl, rfl⟩
  go_wp2_with fail
  refine (key5 (a ++ b) _ S1.out).mono ?_
  rintro e w ⟨g, rfl, hg, rfl⟩
  have HG : Hid (g = true ↔ KeyOK (a ++ b)) := hg
  clear hg
  go_wp2_with fail
  refine (key5 a _ S3.out).mono ?_
  rintro e w ⟨hd, rfl, hhd, rfl⟩
  have HH : Hid (hd = true ↔ KeyOK a) := hhd
  clear hhd
  go_wp2_with fail
  refine (key5 (one ++ b) _ S2.out).mono ?_
  rintro e w ⟨tl, rfl, htl, rfl⟩
  have HT : Hid (tl = true ↔ KeyOK (one ++ b)) := htl
  clear htl
  go_wp2_with fail
  refine (tail6 b _ (by omega)).mono ?_
  rintro e w ⟨tw, rfl, htw, rfl⟩
  have ew : tw = tl := bool_eq (p := TailOK b) htw (HT.out.trans ((law_tail b).trans ⟨fun x => x.2, fun x => ⟨hb, x⟩⟩))
  clear htw
  rw [ew]
  clear ew
  have eg : g = false := bool_no HG.out (fun x => hab ((law_join a b ha).1 x).1)
  rw [eg]
  clear eg
  go_wp2
  go_ret
  exact ⟨rfl, Below.refl _ _⟩

set_option maxHeartbeats 1000000 in
set_option maxRecDepth 20000 in
theorem join_out_long (a b : ByteArray) (w : World) (h : a.size + b.size ≤ 1048576) (ha : 0 < a.size) (hb : ¬ b.size < 255) (hab : ¬ a.size + b.size ≤ 255) : Calls Try.prog 3 #[.string a, .string b] w fun e w' => e = .returned (.bool true) ∧ Below w.heap.size w w' := by
  have s1 : (a ++ b).size ≤ maxLen := by rw [ByteArray.size_append]; unfold maxLen; omega
  have s2 : (one ++ b).size ≤ maxLen := by rw [ByteArray.size_append, one_size]; unfold maxLen; omega
  have s3 : a.size ≤ maxLen := by unfold maxLen; omega
  have s4 : b.size ≤ maxLen := by unfold maxLen; omega
  have S1 : Hid ((a ++ b).size ≤ maxLen) := s1
  have S2 : Hid ((one ++ b).size ≤ maxLen) := s2
  have S3 : Hid (a.size ≤ maxLen) := s3
  have S4 : Hid (b.size ≤ maxLen) := s4
  clear s1 s2 s3 s4
  have he : a.toList.isEmpty = false := not_isEmpty_of ha
  go_enter Try.func3, Try.ntmps3
  go_wp2_with fail
  refine (bytes4 _ _ _ h).mono ?_
  rintro e w ⟨rfl, rfl⟩
  go_wp2_with fail
  refine (key5 (a ++ b) _ S1.out).mono ?_
  rintro e w ⟨g, rfl, hg, rfl⟩
  have HG : Hid (g = true ↔ KeyOK (a ++ b)) := hg
  clear hg
  go_wp2_with fail
  refine (key5 a _ S3.out).mono ?_
  rintro e w ⟨hd, rfl, hhd, rfl⟩
  have HH : Hid (hd = true ↔ KeyOK a) := hhd
  clear hhd
  go_wp2_with fail
  refine (key5 (one ++ b) _ S2.out).mono ?_
  rintro e w ⟨tl, rfl, htl, rfl⟩
  have HT : Hid (tl = true ↔ KeyOK (one ++ b)) := htl
  clear htl
  have ew : tl = false := bool_no HT.out (fun x => hb ((law_tail b).1 x).1)
  rw [ew]
  have eg : g = false := bool_no HG.out (fun x => hab ((law_join a b ha).1 x).1)
  rw [eg]
  clear eg
  go_wp2
  go_ret
  exact ⟨rfl, Below.refl _ _⟩

theorem join_all (a b : ByteArray) (w : World) (hm : a.size ≤ maxLen) (hn : b.size ≤ maxLen) : Calls Try.prog 3 #[.string a, .string b] w fun e w' => e = .returned (.bool true) ∧ Below w.heap.size w w' := by
  by_cases h : a.size + b.size ≤ 1048576
  · rcases Nat.eq_zero_or_pos a.size with ha | ha
    · by_cases hb : b.size < 255
      · exact join_empty_short a b w h ha hb
      · exact join_empty_long a b w h ha hb
    · by_cases hb : b.size < 255
      · by_cases hab : a.size + b.size ≤ 255
        · exact join_in_short a b w h ha hb hab
        · exact join_out_short a b w h ha hb hab
      · exact join_out_long a b w h ha hb (by omega)
  · exact join_long a b w (by omega) hm hn

end Go.Proofs.Qxb6628171a
