/-
  THE WALK OF FnSetHasMatchesNameTableAndUnion.
-/
import Derived.Test.Qxb6627814aDoorHas
namespace Go.Proofs.Qxb6627814aDoor
open Go.RowKit

theorem new6 (b : Int) (w : World) : Calls Tryd.prog 6 #[.int .u8 b] w fun e w' => e = .returned (.agg #[.int .u8 b]) ∧ w' = w.alloc (.cells #[.int .u8 b] 24) := by
  go_enter Tryd.func6, Tryd.ntmps6
  go_wp2
  exact bodyPost_ret (v := .agg #[.int .u8 b]) (by simp [results, Tryd.results6, go_sem]) rfl ⟨rfl, rfl⟩

theorem bytes5 (b o : Int) (p : ByteArray) (w : World) (h : p.size ≤ 1048576) : Calls Tryd.prog 5 #[.int .u8 b, .string p, .int .u8 o] w fun e w' => e = .returned (.bool true) ∧ w' = w := by
  go_enter Tryd.func5, Tryd.ntmps5
  go_wp2
  go_ret
  exact ⟨rfl, rfl⟩
theorem bytes5_no (b o : Int) (p : ByteArray) (w : World) (h : 1048576 < p.size) (hm : p.size ≤ maxLen) : Calls Tryd.prog 5 #[.int .u8 b, .string p, .int .u8 o] w fun e w' => e = .returned (.bool false) ∧ w' = w := by
  unfold maxLen at hm
  go_enter Tryd.func5, Tryd.ntmps5
  go_wp2
  go_ret
  exact ⟨rfl, rfl⟩

theorem match_long (b o : Int) (p : ByteArray) (w : World) (h : 1048576 < p.size) (hm : p.size ≤ maxLen) :
    Calls Tryd.prog 3 #[.int .u8 b, .string p, .int .u8 o] w fun e w' => e = .returned (.bool true) ∧ Below w.heap.size w w' := by
  go_enter Tryd.func3, Tryd.ntmps3
  go_wp2_with fail
  refine (bytes5_no _ _ _ _ h hm).mono ?_
  rintro e w ⟨rfl, rfl⟩
  go_wp2
  go_ret
  exact ⟨rfl, Below.refl _ _⟩

theorem match_out (b o : Int) (p : ByteArray) (w : World) (h : p.size ≤ 1048576) (hb : 15 < b) :
    Calls Tryd.prog 3 #[.int .u8 b, .string p, .int .u8 o] w fun e w' => e = .returned (.bool true) ∧ Below w.heap.size w w' := by
  go_enter Tryd.func3, Tryd.ntmps3
  go_wp2_with fail
  refine (bytes5 _ _ _ _ h).mono ?_
  rintro e w ⟨rfl, rfl⟩
  go_wp2
  go_ret
  exact ⟨rfl, Below.refl _ _⟩

theorem match_out2 (b o : Int) (p : ByteArray) (w : World) (h : p.size ≤ 1048576) (hb : ¬ 15 < b) (ho : 15 < o) :
    Calls Tryd.prog 3 #[.int .u8 b, .string p, .int .u8 o] w fun e w' => e = .returned (.bool true) ∧ Below w.heap.size w w' := by
  go_enter Tryd.func3, Tryd.ntmps3
  go_wp2_with fail
  refine (bytes5 _ _ _ _ h).mono ?_
  rintro e w ⟨rfl, rfl⟩
  go_wp2
  go_ret
  exact ⟨rfl, Below.refl _ _⟩

/-! ### The plain law, by the kernel, over sixteen sets -/
theorem sixteen {P : Int → Prop} (h : ∀ n : Fin 16, P (n.val : Int)) (b : Int) (h0 : 0 ≤ b) (h1 : b ≤ 15) : P b := by
  have := h ⟨b.toNat, by omega⟩
  rwa [show ((b.toNat : Nat) : Int) = b by omega] at this
theorem want_0 (b : Int) (h0 : 0 ≤ b) (h1 : b ≤ 15) : (bits BinOp.and IntKind.u8 b 1 == 1) = hasB b 1 :=
  sixteen (P := fun b => (bits BinOp.and IntKind.u8 b 1 == 1) = hasB b 1) (by decide +kernel) b h0 h1
theorem union_0 (b o : Int) (h0 : 0 ≤ b) (h1 : b ≤ 15) (g0 : 0 ≤ o) (g1 : o ≤ 15) : hasB (bits BinOp.or IntKind.u8 b o) 1 = (hasB b 1 || hasB o 1) :=
  sixteen (P := fun b => hasB (bits BinOp.or IntKind.u8 b o) 1 = (hasB b 1 || hasB o 1)) (fun n =>
    sixteen (P := fun o => hasB (bits BinOp.or IntKind.u8 (n.val : Int) o) 1 = (hasB (n.val : Int) 1 || hasB o 1)) (by revert n; decide +kernel) o g0 g1) b h0 h1
theorem want_1 (b : Int) (h0 : 0 ≤ b) (h1 : b ≤ 15) : (bits BinOp.and IntKind.u8 (b / 2) 1 == 1) = hasB b 2 :=
  sixteen (P := fun b => (bits BinOp.and IntKind.u8 (b / 2) 1 == 1) = hasB b 2) (by decide +kernel) b h0 h1
theorem union_1 (b o : Int) (h0 : 0 ≤ b) (h1 : b ≤ 15) (g0 : 0 ≤ o) (g1 : o ≤ 15) : hasB (bits BinOp.or IntKind.u8 b o) 2 = (hasB b 2 || hasB o 2) :=
  sixteen (P := fun b => hasB (bits BinOp.or IntKind.u8 b o) 2 = (hasB b 2 || hasB o 2)) (fun n =>
    sixteen (P := fun o => hasB (bits BinOp.or IntKind.u8 (n.val : Int) o) 2 = (hasB (n.val : Int) 2 || hasB o 2)) (by revert n; decide +kernel) o g0 g1) b h0 h1
theorem want_2 (b : Int) (h0 : 0 ≤ b) (h1 : b ≤ 15) : (bits BinOp.and IntKind.u8 (b / 4) 1 == 1) = hasB b 4 :=
  sixteen (P := fun b => (bits BinOp.and IntKind.u8 (b / 4) 1 == 1) = hasB b 4) (by decide +kernel) b h0 h1
theorem union_2 (b o : Int) (h0 : 0 ≤ b) (h1 : b ≤ 15) (g0 : 0 ≤ o) (g1 : o ≤ 15) : hasB (bits BinOp.or IntKind.u8 b o) 4 = (hasB b 4 || hasB o 4) :=
  sixteen (P := fun b => hasB (bits BinOp.or IntKind.u8 b o) 4 = (hasB b 4 || hasB o 4)) (fun n =>
    sixteen (P := fun o => hasB (bits BinOp.or IntKind.u8 (n.val : Int) o) 4 = (hasB (n.val : Int) 4 || hasB o 4)) (by revert n; decide +kernel) o g0 g1) b h0 h1
theorem want_3 (b : Int) (h0 : 0 ≤ b) (h1 : b ≤ 15) : (bits BinOp.and IntKind.u8 (b / 8) 1 == 1) = hasB b 8 :=
  sixteen (P := fun b => (bits BinOp.and IntKind.u8 (b / 8) 1 == 1) = hasB b 8) (by decide +kernel) b h0 h1
theorem union_3 (b o : Int) (h0 : 0 ≤ b) (h1 : b ≤ 15) (g0 : 0 ≤ o) (g1 : o ≤ 15) : hasB (bits BinOp.or IntKind.u8 b o) 8 = (hasB b 8 || hasB o 8) :=
  sixteen (P := fun b => hasB (bits BinOp.or IntKind.u8 b o) 8 = (hasB b 8 || hasB o 8)) (fun n =>
    sixteen (P := fun o => hasB (bits BinOp.or IntKind.u8 (n.val : Int) o) 8 = (hasB (n.val : Int) 8 || hasB o 8)) (by revert n; decide +kernel) o g0 g1) b h0 h1

/-- New blocks alone. -/
def Grew (w w' : World) : Prop := Below w.heap.size w w'
theorem Grew.refl (w : World) : Grew w w := Below.refl _ _
theorem Grew.alloc {w w' : World} (h : Grew w w') (o : Obj) : Grew w (w'.alloc o) := Below.alloc h h.size o
theorem grew {w w' : World} (h : Grew w w') : Below w.heap.size w w' := h

set_option maxHeartbeats 1000000 in
theorem match_no (b o : Int) (p : ByteArray) (w : World) (h : p.size ≤ 1048576) (hl : Listed w) (hb : b ≤ 15) (ho : o ≤ 15) (hb0 : 0 ≤ b) (ho0 : 0 ≤ o) (hj : ix p = -1) :
    Calls Tryd.prog 3 #[.int .u8 b, .string p, .int .u8 o] w fun e w' => e = .returned (.bool true) ∧ Below w.heap.size w w' := by
  have H : Hid (Listed w) := hl
  have HJ : Hid (ix p = -1) := hj
  clear hl hj
  go_enter Tryd.func3, Tryd.ntmps3
  go_wp2_with fail
  refine (bytes5 _ _ _ _ h).mono ?_
  rintro e w ⟨rfl, rfl⟩
  go_wp2_with fail
  refine (new6 _ _).mono ?_
  rintro e w1 ⟨rfl, rfl⟩
  go_wp2_with fail
  refine (new6 _ _).mono ?_
  rintro e w1 ⟨rfl, rfl⟩
  go_wp2_with fail
  refine (new6 _ _).mono ?_
  rintro e w1 ⟨rfl, rfl⟩
  go_wp2_with fail
  refine (has7_no p _ _ (H.out.keep ?_) HJ.out).mono ?_
  · exact grew (by repeat (first | exact Grew.refl _ | refine Grew.alloc ?_ _))
  rintro e w1 ⟨rfl, rfl⟩
  go_wp2_with fail
  refine (has7_no p _ _ (H.out.keep ?_) HJ.out).mono ?_
  · exact grew (by repeat (first | exact Grew.refl _ | refine Grew.alloc ?_ _))
  rintro e w1 ⟨rfl, rfl⟩
  go_wp2_with fail
  refine (has7_no p _ _ (H.out.keep ?_) HJ.out).mono ?_
  · exact grew (by repeat (first | exact Grew.refl _ | refine Grew.alloc ?_ _))
  rintro e w1 ⟨rfl, rfl⟩
  go_wp2_with fail
  refine (perm8 p _).mono ?_
  rintro e w1 ⟨rfl, rfl⟩
  rw [HJ.out]
  go_wp2
  go_ret
  exact ⟨rfl, grew (by repeat (first | exact Grew.refl _ | refine Grew.alloc ?_ _))⟩

set_option maxHeartbeats 1000000 in
theorem match_0 (b o : Int) (p : ByteArray) (w : World) (h : p.size ≤ 1048576) (hl : Listed w) (hb : b ≤ 15) (ho : o ≤ 15) (hb0 : 0 ≤ b) (ho0 : 0 ≤ o) (hj : ix p = 0) :
    Calls Tryd.prog 3 #[.int .u8 b, .string p, .int .u8 o] w fun e w' => e = .returned (.bool true) ∧ Below w.heap.size w w' := by
  have H : Hid (Listed w) := hl
  have HJ : Hid (ix p = 0) := hj
  clear hl hj
  have e1 := want_0 b hb0 hb
  have e2 := union_0 b o hb0 hb ho0 ho
  have eB : ∀ x : Bool, x = true ∨ x = false := fun x => by cases x <;> simp
  rcases eB (hasB b 1) with g1 | g1 <;> rcases eB (hasB o 1) with g2 | g2
  all_goals
    rw [g1] at e1 e2
    rw [g2] at e2
    simp only [Bool.or_true, Bool.or_false] at e2
    clear eB
    go_enter Tryd.func3, Tryd.ntmps3
    go_wp2_with fail
    refine (bytes5 _ _ _ _ h).mono ?_
    rintro e w ⟨rfl, rfl⟩
    go_wp2_with fail
    refine (new6 _ _).mono ?_
    rintro e w1 ⟨rfl, rfl⟩
    go_wp2_with fail
    refine (new6 _ _).mono ?_
    rintro e w1 ⟨rfl, rfl⟩
    go_wp2_with fail
    refine (new6 _ _).mono ?_
    rintro e w1 ⟨rfl, rfl⟩
    go_wp2_with fail
    refine (has7_0 p _ _ (H.out.keep ?_) HJ.out).mono ?_
    · exact grew (by repeat (first | exact Grew.refl _ | refine Grew.alloc ?_ _))
    rintro e w1 ⟨rfl, rfl⟩
    go_wp2_with fail
    refine (has7_0 p _ _ (H.out.keep ?_) HJ.out).mono ?_
    · exact grew (by repeat (first | exact Grew.refl _ | refine Grew.alloc ?_ _))
    rintro e w1 ⟨rfl, rfl⟩
    go_wp2_with fail
    refine (has7_0 p _ _ (H.out.keep ?_) HJ.out).mono ?_
    · exact grew (by repeat (first | exact Grew.refl _ | refine Grew.alloc ?_ _))
    rintro e w1 ⟨rfl, rfl⟩
    go_wp2_with fail
    refine (perm8 p _).mono ?_
    rintro e w1 ⟨rfl, rfl⟩
    rw [HJ.out]
    go_wp2
    go_ret
    exact ⟨rfl, grew (by repeat (first | exact Grew.refl _ | refine Grew.alloc ?_ _))⟩

set_option maxHeartbeats 1000000 in
theorem match_1 (b o : Int) (p : ByteArray) (w : World) (h : p.size ≤ 1048576) (hl : Listed w) (hb : b ≤ 15) (ho : o ≤ 15) (hb0 : 0 ≤ b) (ho0 : 0 ≤ o) (hj : ix p = 1) :
    Calls Tryd.prog 3 #[.int .u8 b, .string p, .int .u8 o] w fun e w' => e = .returned (.bool true) ∧ Below w.heap.size w w' := by
  have H : Hid (Listed w) := hl
  have HJ : Hid (ix p = 1) := hj
  clear hl hj
  have e1 := want_1 b hb0 hb
  have e2 := union_1 b o hb0 hb ho0 ho
  have eB : ∀ x : Bool, x = true ∨ x = false := fun x => by cases x <;> simp
  rcases eB (hasB b 2) with g1 | g1 <;> rcases eB (hasB o 2) with g2 | g2
  all_goals
    rw [g1] at e1 e2
    rw [g2] at e2
    simp only [Bool.or_true, Bool.or_false] at e2
    clear eB
    go_enter Tryd.func3, Tryd.ntmps3
    go_wp2_with fail
    refine (bytes5 _ _ _ _ h).mono ?_
    rintro e w ⟨rfl, rfl⟩
    go_wp2_with fail
    refine (new6 _ _).mono ?_
    rintro e w1 ⟨rfl, rfl⟩
    go_wp2_with fail
    refine (new6 _ _).mono ?_
    rintro e w1 ⟨rfl, rfl⟩
    go_wp2_with fail
    refine (new6 _ _).mono ?_
    rintro e w1 ⟨rfl, rfl⟩
    go_wp2_with fail
    refine (has7_1 p _ _ (H.out.keep ?_) HJ.out).mono ?_
    · exact grew (by repeat (first | exact Grew.refl _ | refine Grew.alloc ?_ _))
    rintro e w1 ⟨rfl, rfl⟩
    go_wp2_with fail
    refine (has7_1 p _ _ (H.out.keep ?_) HJ.out).mono ?_
    · exact grew (by repeat (first | exact Grew.refl _ | refine Grew.alloc ?_ _))
    rintro e w1 ⟨rfl, rfl⟩
    go_wp2_with fail
    refine (has7_1 p _ _ (H.out.keep ?_) HJ.out).mono ?_
    · exact grew (by repeat (first | exact Grew.refl _ | refine Grew.alloc ?_ _))
    rintro e w1 ⟨rfl, rfl⟩
    go_wp2_with fail
    refine (perm8 p _).mono ?_
    rintro e w1 ⟨rfl, rfl⟩
    rw [HJ.out]
    go_wp2
    go_ret
    exact ⟨rfl, grew (by repeat (first | exact Grew.refl _ | refine Grew.alloc ?_ _))⟩

set_option maxHeartbeats 1000000 in
theorem match_2 (b o : Int) (p : ByteArray) (w : World) (h : p.size ≤ 1048576) (hl : Listed w) (hb : b ≤ 15) (ho : o ≤ 15) (hb0 : 0 ≤ b) (ho0 : 0 ≤ o) (hj : ix p = 2) :
    Calls Tryd.prog 3 #[.int .u8 b, .string p, .int .u8 o] w fun e w' => e = .returned (.bool true) ∧ Below w.heap.size w w' := by
  have H : Hid (Listed w) := hl
  have HJ : Hid (ix p = 2) := hj
  clear hl hj
  have e1 := want_2 b hb0 hb
  have e2 := union_2 b o hb0 hb ho0 ho
  have eB : ∀ x : Bool, x = true ∨ x = false := fun x => by cases x <;> simp
  rcases eB (hasB b 4) with g1 | g1 <;> rcases eB (hasB o 4) with g2 | g2
  all_goals
    rw [g1] at e1 e2
    rw [g2] at e2
    simp only [Bool.or_true, Bool.or_false] at e2
    clear eB
    go_enter Tryd.func3, Tryd.ntmps3
    go_wp2_with fail
    refine (bytes5 _ _ _ _ h).mono ?_
    rintro e w ⟨rfl, rfl⟩
    go_wp2_with fail
    refine (new6 _ _).mono ?_
    rintro e w1 ⟨rfl, rfl⟩
    go_wp2_with fail
    refine (new6 _ _).mono ?_
    rintro e w1 ⟨rfl, rfl⟩
    go_wp2_with fail
    refine (new6 _ _).mono ?_
    rintro e w1 ⟨rfl, rfl⟩
    go_wp2_with fail
    refine (has7_2 p _ _ (H.out.keep ?_) HJ.out).mono ?_
    · exact grew (by repeat (first | exact Grew.refl _ | refine Grew.alloc ?_ _))
    rintro e w1 ⟨rfl, rfl⟩
    go_wp2_with fail
    refine (has7_2 p _ _ (H.out.keep ?_) HJ.out).mono ?_
    · exact grew (by repeat (first | exact Grew.refl _ | refine Grew.alloc ?_ _))
    rintro e w1 ⟨rfl, rfl⟩
    go_wp2_with fail
    refine (has7_2 p _ _ (H.out.keep ?_) HJ.out).mono ?_
    · exact grew (by repeat (first | exact Grew.refl _ | refine Grew.alloc ?_ _))
    rintro e w1 ⟨rfl, rfl⟩
    go_wp2_with fail
    refine (perm8 p _).mono ?_
    rintro e w1 ⟨rfl, rfl⟩
    rw [HJ.out]
    go_wp2
    go_ret
    exact ⟨rfl, grew (by repeat (first | exact Grew.refl _ | refine Grew.alloc ?_ _))⟩

set_option maxHeartbeats 1000000 in
theorem match_3 (b o : Int) (p : ByteArray) (w : World) (h : p.size ≤ 1048576) (hl : Listed w) (hb : b ≤ 15) (ho : o ≤ 15) (hb0 : 0 ≤ b) (ho0 : 0 ≤ o) (hj : ix p = 3) :
    Calls Tryd.prog 3 #[.int .u8 b, .string p, .int .u8 o] w fun e w' => e = .returned (.bool true) ∧ Below w.heap.size w w' := by
  have H : Hid (Listed w) := hl
  have HJ : Hid (ix p = 3) := hj
  clear hl hj
  have e1 := want_3 b hb0 hb
  have e2 := union_3 b o hb0 hb ho0 ho
  have eB : ∀ x : Bool, x = true ∨ x = false := fun x => by cases x <;> simp
  rcases eB (hasB b 8) with g1 | g1 <;> rcases eB (hasB o 8) with g2 | g2
  all_goals
    rw [g1] at e1 e2
    rw [g2] at e2
    simp only [Bool.or_true, Bool.or_false] at e2
    clear eB
    go_enter Tryd.func3, Tryd.ntmps3
    go_wp2_with fail
    refine (bytes5 _ _ _ _ h).mono ?_
    rintro e w ⟨rfl, rfl⟩
    go_wp2_with fail
    refine (new6 _ _).mono ?_
    rintro e w1 ⟨rfl, rfl⟩
    go_wp2_with fail
    refine (new6 _ _).mono ?_
    rintro e w1 ⟨rfl, rfl⟩
    go_wp2_with fail
    refine (new6 _ _).mono ?_
    rintro e w1 ⟨rfl, rfl⟩
    go_wp2_with fail
    refine (has7_3 p _ _ (H.out.keep ?_) HJ.out).mono ?_
    · exact grew (by repeat (first | exact Grew.refl _ | refine Grew.alloc ?_ _))
    rintro e w1 ⟨rfl, rfl⟩
    go_wp2_with fail
    refine (has7_3 p _ _ (H.out.keep ?_) HJ.out).mono ?_
    · exact grew (by repeat (first | exact Grew.refl _ | refine Grew.alloc ?_ _))
    rintro e w1 ⟨rfl, rfl⟩
    go_wp2_with fail
    refine (has7_3 p _ _ (H.out.keep ?_) HJ.out).mono ?_
    · exact grew (by repeat (first | exact Grew.refl _ | refine Grew.alloc ?_ _))
    rintro e w1 ⟨rfl, rfl⟩
    go_wp2_with fail
    refine (perm8 p _).mono ?_
    rintro e w1 ⟨rfl, rfl⟩
    rw [HJ.out]
    go_wp2
    go_ret
    exact ⟨rfl, grew (by repeat (first | exact Grew.refl _ | refine Grew.alloc ?_ _))⟩

theorem match_all (b o : Int) (p : ByteArray) (w : World) (hm : p.size ≤ maxLen) (hl : Listed w) (hb0 : 0 ≤ b) (ho0 : 0 ≤ o) :
    Calls Tryd.prog 3 #[.int .u8 b, .string p, .int .u8 o] w fun e w' => e = .returned (.bool true) ∧ Below w.heap.size w w' := by
  by_cases h : p.size ≤ 1048576
  · by_cases hb : 15 < b
    · exact match_out b o p w h hb
    · by_cases ho : 15 < o
      · exact match_out2 b o p w h hb ho
      · rcases ix_cases p with hj | hj | hj | hj | hj
        · exact match_no b o p w h hl (by omega) (by omega) hb0 ho0 hj
        · exact match_0 b o p w h hl (by omega) (by omega) hb0 ho0 hj
        · exact match_1 b o p w h hl (by omega) (by omega) hb0 ho0 hj
        · exact match_2 b o p w h hl (by omega) (by omega) hb0 ho0 hj
        · exact match_3 b o p w h hl (by omega) (by omega) hb0 ho0 hj
  · exact match_long b o p w (by omega) hm

end Go.Proofs.Qxb6627814aDoor
