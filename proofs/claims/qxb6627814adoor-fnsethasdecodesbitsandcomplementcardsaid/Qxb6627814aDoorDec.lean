/-
  THE WALK OF FnSetHasDecodesBitsAndComplement.
-/
import Derived.Test.Qxb6627814aDoorTop
namespace Go.Proofs.Qxb6627814aDoor
open Go.RowKit

theorem name9_0 (w : World) : Calls Tryd.prog 9 #[.int .i64 0] w fun e w' => e = .returned (.string ⟨#[82, 69, 80, 79, 82, 84, 95, 67, 79, 78, 84, 69, 78, 84]⟩) ∧ w' = w := by
  go_enter Tryd.func9, Tryd.ntmps9
  go_wp2
  go_ret
  exact ⟨rfl, rfl⟩
theorem ix_0 : ix ⟨#[82, 69, 80, 79, 82, 84, 95, 67, 79, 78, 84, 69, 78, 84]⟩ = 0 := by decide +kernel
theorem name9_1 (w : World) : Calls Tryd.prog 9 #[.int .i64 1] w fun e w' => e = .returned (.string ⟨#[68, 69, 76, 69, 84, 69, 95, 79, 87, 78, 95, 82, 69, 80, 79, 82, 84, 83]⟩) ∧ w' = w := by
  go_enter Tryd.func9, Tryd.ntmps9
  go_wp2
  go_ret
  exact ⟨rfl, rfl⟩
theorem ix_1 : ix ⟨#[68, 69, 76, 69, 84, 69, 95, 79, 87, 78, 95, 82, 69, 80, 79, 82, 84, 83]⟩ = 1 := by decide +kernel
theorem name9_2 (w : World) : Calls Tryd.prog 9 #[.int .i64 2] w fun e w' => e = .returned (.string ⟨#[77, 65, 78, 65, 71, 69, 95, 82, 69, 80, 79, 82, 84, 83]⟩) ∧ w' = w := by
  go_enter Tryd.func9, Tryd.ntmps9
  go_wp2
  go_ret
  exact ⟨rfl, rfl⟩
theorem ix_2 : ix ⟨#[77, 65, 78, 65, 71, 69, 95, 82, 69, 80, 79, 82, 84, 83]⟩ = 2 := by decide +kernel
theorem name9_3 (w : World) : Calls Tryd.prog 9 #[.int .i64 3] w fun e w' => e = .returned (.string ⟨#[77, 65, 78, 65, 71, 69, 95, 82, 69, 65, 83, 79, 78, 83]⟩) ∧ w' = w := by
  go_enter Tryd.func9, Tryd.ntmps9
  go_wp2
  go_ret
  exact ⟨rfl, rfl⟩
theorem ix_3 : ix ⟨#[77, 65, 78, 65, 71, 69, 95, 82, 69, 65, 83, 79, 78, 83]⟩ = 3 := by decide +kernel

set_option maxHeartbeats 1000000 in
theorem dec_0 (w : World) (hl : Listed w) : Calls Tryd.prog 4 #[.int .u8 0] w fun e w' => e = .returned (.bool true) ∧ Below w.heap.size w w' := by
  have H : Hid (Listed w) := hl
  clear hl
  have a0 : hasB 0 1 = false := by decide +kernel
  have a1 : hasB 0 2 = false := by decide +kernel
  have a2 : hasB 0 4 = false := by decide +kernel
  have a3 : hasB 0 8 = false := by decide +kernel
  have x0 : bits BinOp.xor IntKind.u8 15 0 = 15 := by decide +kernel
  have c0 : hasB 15 1 = true := by decide +kernel
  have c1 : hasB 15 2 = true := by decide +kernel
  have c2 : hasB 15 4 = true := by decide +kernel
  have c3 : hasB 15 8 = true := by decide +kernel
  go_enter Tryd.func4, Tryd.ntmps4
  go_wp2_with fail
  refine (new6 _ _).mono ?_
  rintro e w1 ⟨rfl, rfl⟩
  go_wp2_with fail
  refine (new6 _ _).mono ?_
  rintro e w1 ⟨rfl, rfl⟩
  go_wp2_with fail
  refine wp_loop_rounds 5 ?_
  rw [rounds_succ]
  go_wp2_with fail
  refine (name9_0 _).mono ?_
  rintro e w1 ⟨rfl, rfl⟩
  go_wp2_with fail
  refine (has7_0 _ _ _ (H.out.keep ?_) ix_0).mono ?_
  · exact grew (by repeat (first | exact Grew.refl _ | refine Grew.alloc ?_ _))
  rintro e w1 ⟨rfl, rfl⟩
  go_wp2_with fail
  refine (has7_0 _ _ _ (H.out.keep ?_) ix_0).mono ?_
  · exact grew (by repeat (first | exact Grew.refl _ | refine Grew.alloc ?_ _))
  rintro e w1 ⟨rfl, rfl⟩
  go_wp2_with fail
  rw [rounds_succ]
  go_wp2_with fail
  refine (name9_1 _).mono ?_
  rintro e w1 ⟨rfl, rfl⟩
  go_wp2_with fail
  refine (has7_1 _ _ _ (H.out.keep ?_) ix_1).mono ?_
  · exact grew (by repeat (first | exact Grew.refl _ | refine Grew.alloc ?_ _))
  rintro e w1 ⟨rfl, rfl⟩
  go_wp2_with fail
  refine (has7_1 _ _ _ (H.out.keep ?_) ix_1).mono ?_
  · exact grew (by repeat (first | exact Grew.refl _ | refine Grew.alloc ?_ _))
  rintro e w1 ⟨rfl, rfl⟩
  go_wp2_with fail
  rw [rounds_succ]
  go_wp2_with fail
  refine (name9_2 _).mono ?_
  rintro e w1 ⟨rfl, rfl⟩
  go_wp2_with fail
  refine (has7_2 _ _ _ (H.out.keep ?_) ix_2).mono ?_
  · exact grew (by repeat (first | exact Grew.refl _ | refine Grew.alloc ?_ _))
  rintro e w1 ⟨rfl, rfl⟩
  go_wp2_with fail
  refine (has7_2 _ _ _ (H.out.keep ?_) ix_2).mono ?_
  · exact grew (by repeat (first | exact Grew.refl _ | refine Grew.alloc ?_ _))
  rintro e w1 ⟨rfl, rfl⟩
  go_wp2_with fail
  rw [rounds_succ]
  go_wp2_with fail
  refine (name9_3 _).mono ?_
  rintro e w1 ⟨rfl, rfl⟩
  go_wp2_with fail
  refine (has7_3 _ _ _ (H.out.keep ?_) ix_3).mono ?_
  · exact grew (by repeat (first | exact Grew.refl _ | refine Grew.alloc ?_ _))
  rintro e w1 ⟨rfl, rfl⟩
  go_wp2_with fail
  refine (has7_3 _ _ _ (H.out.keep ?_) ix_3).mono ?_
  · exact grew (by repeat (first | exact Grew.refl _ | refine Grew.alloc ?_ _))
  rintro e w1 ⟨rfl, rfl⟩
  go_wp2_with fail
  rw [rounds_succ]
  go_wp2
  go_ret
  exact ⟨rfl, grew (by repeat (first | exact Grew.refl _ | refine Grew.alloc ?_ _))⟩

set_option maxHeartbeats 1000000 in
theorem dec_1 (w : World) (hl : Listed w) : Calls Tryd.prog 4 #[.int .u8 1] w fun e w' => e = .returned (.bool true) ∧ Below w.heap.size w w' := by
  have H : Hid (Listed w) := hl
  clear hl
  have a0 : hasB 1 1 = true := by decide +kernel
  have a1 : hasB 1 2 = false := by decide +kernel
  have a2 : hasB 1 4 = false := by decide +kernel
  have a3 : hasB 1 8 = false := by decide +kernel
  have x0 : bits BinOp.xor IntKind.u8 15 1 = 14 := by decide +kernel
  have c0 : hasB 14 1 = false := by decide +kernel
  have c1 : hasB 14 2 = true := by decide +kernel
  have c2 : hasB 14 4 = true := by decide +kernel
  have c3 : hasB 14 8 = true := by decide +kernel
  go_enter Tryd.func4, Tryd.ntmps4
  go_wp2_with fail
  refine (new6 _ _).mono ?_
  rintro e w1 ⟨rfl, rfl⟩
  go_wp2_with fail
  refine (new6 _ _).mono ?_
  rintro e w1 ⟨rfl, rfl⟩
  go_wp2_with fail
  refine wp_loop_rounds 5 ?_
  rw [rounds_succ]
  go_wp2_with fail
  refine (name9_0 _).mono ?_
  rintro e w1 ⟨rfl, rfl⟩
  go_wp2_with fail
  refine (has7_0 _ _ _ (H.out.keep ?_) ix_0).mono ?_
  · exact grew (by repeat (first | exact Grew.refl _ | refine Grew.alloc ?_ _))
  rintro e w1 ⟨rfl, rfl⟩
  go_wp2_with fail
  refine (has7_0 _ _ _ (H.out.keep ?_) ix_0).mono ?_
  · exact grew (by repeat (first | exact Grew.refl _ | refine Grew.alloc ?_ _))
  rintro e w1 ⟨rfl, rfl⟩
  go_wp2_with fail
  rw [rounds_succ]
  go_wp2_with fail
  refine (name9_1 _).mono ?_
  rintro e w1 ⟨rfl, rfl⟩
  go_wp2_with fail
  refine (has7_1 _ _ _ (H.out.keep ?_) ix_1).mono ?_
  · exact grew (by repeat (first | exact Grew.refl _ | refine Grew.alloc ?_ _))
  rintro e w1 ⟨rfl, rfl⟩
  go_wp2_with fail
  refine (has7_1 _ _ _ (H.out.keep ?_) ix_1).mono ?_
  · exact grew (by repeat (first | exact Grew.refl _ | refine Grew.alloc ?_ _))
  rintro e w1 ⟨rfl, rfl⟩
  go_wp2_with fail
  rw [rounds_succ]
  go_wp2_with fail
  refine (name9_2 _).mono ?_
  rintro e w1 ⟨rfl, rfl⟩
  go_wp2_with fail
  refine (has7_2 _ _ _ (H.out.keep ?_) ix_2).mono ?_
  · exact grew (by repeat (first | exact Grew.refl _ | refine Grew.alloc ?_ _))
  rintro e w1 ⟨rfl, rfl⟩
  go_wp2_with fail
  refine (has7_2 _ _ _ (H.out.keep ?_) ix_2).mono ?_
  · exact grew (by repeat (first | exact Grew.refl _ | refine Grew.alloc ?_ _))
  rintro e w1 ⟨rfl, rfl⟩
  go_wp2_with fail
  rw [rounds_succ]
  go_wp2_with fail
  refine (name9_3 _).mono ?_
  rintro e w1 ⟨rfl, rfl⟩
  go_wp2_with fail
  refine (has7_3 _ _ _ (H.out.keep ?_) ix_3).mono ?_
  · exact grew (by repeat (first | exact Grew.refl _ | refine Grew.alloc ?_ _))
  rintro e w1 ⟨rfl, rfl⟩
  go_wp2_with fail
  refine (has7_3 _ _ _ (H.out.keep ?_) ix_3).mono ?_
  · exact grew (by repeat (first | exact Grew.refl _ | refine Grew.alloc ?_ _))
  rintro e w1 ⟨rfl, rfl⟩
  go_wp2_with fail
  rw [rounds_succ]
  go_wp2
  go_ret
  exact ⟨rfl, grew (by repeat (first | exact Grew.refl _ | refine Grew.alloc ?_ _))⟩

set_option maxHeartbeats 1000000 in
theorem dec_2 (w : World) (hl : Listed w) : Calls Tryd.prog 4 #[.int .u8 2] w fun e w' => e = .returned (.bool true) ∧ Below w.heap.size w w' := by
  have H : Hid (Listed w) := hl
  clear hl
  have a0 : hasB 2 1 = false := by decide +kernel
  have a1 : hasB 2 2 = true := by decide +kernel
  have a2 : hasB 2 4 = false := by decide +kernel
  have a3 : hasB 2 8 = false := by decide +kernel
  have x0 : bits BinOp.xor IntKind.u8 15 2 = 13 := by decide +kernel
  have c0 : hasB 13 1 = true := by decide +kernel
  have c1 : hasB 13 2 = false := by decide +kernel
  have c2 : hasB 13 4 = true := by decide +kernel
  have c3 : hasB 13 8 = true := by decide +kernel
  go_enter Tryd.func4, Tryd.ntmps4
  go_wp2_with fail
  refine (new6 _ _).mono ?_
  rintro e w1 ⟨rfl, rfl⟩
  go_wp2_with fail
  refine (new6 _ _).mono ?_
  rintro e w1 ⟨rfl, rfl⟩
  go_wp2_with fail
  refine wp_loop_rounds 5 ?_
  rw [rounds_succ]
  go_wp2_with fail
  refine (name9_0 _).mono ?_
  rintro e w1 ⟨rfl, rfl⟩
  go_wp2_with fail
  refine (has7_0 _ _ _ (H.out.keep ?_) ix_0).mono ?_
  · exact grew (by repeat (first | exact Grew.refl _ | refine Grew.alloc ?_ _))
  rintro e w1 ⟨rfl, rfl⟩
  go_wp2_with fail
  refine (has7_0 _ _ _ (H.out.keep ?_) ix_0).mono ?_
  · exact grew (by repeat (first | exact Grew.refl _ | refine Grew.alloc ?_ _))
  rintro e w1 ⟨rfl, rfl⟩
  go_wp2_with fail
  rw [rounds_succ]
  go_wp2_with fail
  refine (name9_1 _).mono ?_
  rintro e w1 ⟨rfl, rfl⟩
  go_wp2_with fail
  refine (has7_1 _ _ _ (H.out.keep ?_) ix_1).mono ?_
  · exact grew (by repeat (first | exact Grew.refl _ | refine Grew.alloc ?_ _))
  rintro e w1 ⟨rfl, rfl⟩
  go_wp2_with fail
  refine (has7_1 _ _ _ (H.out.keep ?_) ix_1).mono ?_
  · exact grew (by repeat (first | exact Grew.refl _ | refine Grew.alloc ?_ _))
  rintro e w1 ⟨rfl, rfl⟩
  go_wp2_with fail
  rw [rounds_succ]
  go_wp2_with fail
  refine (name9_2 _).mono ?_
  rintro e w1 ⟨rfl, rfl⟩
  go_wp2_with fail
  refine (has7_2 _ _ _ (H.out.keep ?_) ix_2).mono ?_
  · exact grew (by repeat (first | exact Grew.refl _ | refine Grew.alloc ?_ _))
  rintro e w1 ⟨rfl, rfl⟩
  go_wp2_with fail
  refine (has7_2 _ _ _ (H.out.keep ?_) ix_2).mono ?_
  · exact grew (by repeat (first | exact Grew.refl _ | refine Grew.alloc ?_ _))
  rintro e w1 ⟨rfl, rfl⟩
  go_wp2_with fail
  rw [rounds_succ]
  go_wp2_with fail
  refine (name9_3 _).mono ?_
  rintro e w1 ⟨rfl, rfl⟩
  go_wp2_with fail
  refine (has7_3 _ _ _ (H.out.keep ?_) ix_3).mono ?_
  · exact grew (by repeat (first | exact Grew.refl _ | refine Grew.alloc ?_ _))
  rintro e w1 ⟨rfl, rfl⟩
  go_wp2_with fail
  refine (has7_3 _ _ _ (H.out.keep ?_) ix_3).mono ?_
  · exact grew (by repeat (first | exact Grew.refl _ | refine Grew.alloc ?_ _))
  rintro e w1 ⟨rfl, rfl⟩
  go_wp2_with fail
  rw [rounds_succ]
  go_wp2
  go_ret
  exact ⟨rfl, grew (by repeat (first | exact Grew.refl _ | refine Grew.alloc ?_ _))⟩

set_option maxHeartbeats 1000000 in
theorem dec_3 (w : World) (hl : Listed w) : Calls Tryd.prog 4 #[.int .u8 3] w fun e w' => e = .returned (.bool true) ∧ Below w.heap.size w w' := by
  have H : Hid (Listed w) := hl
  clear hl
  have a0 : hasB 3 1 = true := by decide +kernel
  have a1 : hasB 3 2 = true := by decide +kernel
  have a2 : hasB 3 4 = false := by decide +kernel
  have a3 : hasB 3 8 = false := by decide +kernel
  have x0 : bits BinOp.xor IntKind.u8 15 3 = 12 := by decide +kernel
  have c0 : hasB 12 1 = false := by decide +kernel
  have c1 : hasB 12 2 = false := by decide +kernel
  have c2 : hasB 12 4 = true := by decide +kernel
  have c3 : hasB 12 8 = true := by decide +kernel
  go_enter Tryd.func4, Tryd.ntmps4
  go_wp2_with fail
  refine (new6 _ _).mono ?_
  rintro e w1 ⟨rfl, rfl⟩
  go_wp2_with fail
  refine (new6 _ _).mono ?_
  rintro e w1 ⟨rfl, rfl⟩
  go_wp2_with fail
  refine wp_loop_rounds 5 ?_
  rw [rounds_succ]
  go_wp2_with fail
  refine (name9_0 _).mono ?_
  rintro e w1 ⟨rfl, rfl⟩
  go_wp2_with fail
  refine (has7_0 _ _ _ (H.out.keep ?_) ix_0).mono ?_
  · exact grew (by repeat (first | exact Grew.refl _ | refine Grew.alloc ?_ _))
  rintro e w1 ⟨rfl, rfl⟩
  go_wp2_with fail
  refine (has7_0 _ _ _ (H.out.keep ?_) ix_0).mono ?_
  · exact grew (by repeat (first | exact Grew.refl _ | refine Grew.alloc ?_ _))
  rintro e w1 ⟨rfl, rfl⟩
  go_wp2_with fail
  rw [rounds_succ]
  go_wp2_with fail
  refine (name9_1 _).mono ?_
  rintro e w1 ⟨rfl, rfl⟩
  go_wp2_with fail
  refine (has7_1 _ _ _ (H.out.keep ?_) ix_1).mono ?_
  · exact grew (by repeat (first | exact Grew.refl _ | refine Grew.alloc ?_ _))
  rintro e w1 ⟨rfl, rfl⟩
  go_wp2_with fail
  refine (has7_1 _ _ _ (H.out.keep ?_) ix_1).mono ?_
  · exact grew (by repeat (first | exact Grew.refl _ | refine Grew.alloc ?_ _))
  rintro e w1 ⟨rfl, rfl⟩
  go_wp2_with fail
  rw [rounds_succ]
  go_wp2_with fail
  refine (name9_2 _).mono ?_
  rintro e w1 ⟨rfl, rfl⟩
  go_wp2_with fail
  refine (has7_2 _ _ _ (H.out.keep ?_) ix_2).mono ?_
  · exact grew (by repeat (first | exact Grew.refl _ | refine Grew.alloc ?_ _))
  rintro e w1 ⟨rfl, rfl⟩
  go_wp2_with fail
  refine (has7_2 _ _ _ (H.out.keep ?_) ix_2).mono ?_
  · exact grew (by repeat (first | exact Grew.refl _ | refine Grew.alloc ?_ _))
  rintro e w1 ⟨rfl, rfl⟩
  go_wp2_with fail
  rw [rounds_succ]
  go_wp2_with fail
  refine (name9_3 _).mono ?_
  rintro e w1 ⟨rfl, rfl⟩
  go_wp2_with fail
  refine (has7_3 _ _ _ (H.out.keep ?_) ix_3).mono ?_
  · exact grew (by repeat (first | exact Grew.refl _ | refine Grew.alloc ?_ _))
  rintro e w1 ⟨rfl, rfl⟩
  go_wp2_with fail
  refine (has7_3 _ _ _ (H.out.keep ?_) ix_3).mono ?_
  · exact grew (by repeat (first | exact Grew.refl _ | refine Grew.alloc ?_ _))
  rintro e w1 ⟨rfl, rfl⟩
  go_wp2_with fail
  rw [rounds_succ]
  go_wp2
  go_ret
  exact ⟨rfl, grew (by repeat (first | exact Grew.refl _ | refine Grew.alloc ?_ _))⟩

set_option maxHeartbeats 1000000 in
theorem dec_4 (w : World) (hl : Listed w) : Calls Tryd.prog 4 #[.int .u8 4] w fun e w' => e = .returned (.bool true) ∧ Below w.heap.size w w' := by
  have H : Hid (Listed w) := hl
  clear hl
  have a0 : hasB 4 1 = false := by decide +kernel
  have a1 : hasB 4 2 = false := by decide +kernel
  have a2 : hasB 4 4 = true := by decide +kernel
  have a3 : hasB 4 8 = false := by decide +kernel
  have x0 : bits BinOp.xor IntKind.u8 15 4 = 11 := by decide +kernel
  have c0 : hasB 11 1 = true := by decide +kernel
  have c1 : hasB 11 2 = true := by decide +kernel
  have c2 : hasB 11 4 = false := by decide +kernel
  have c3 : hasB 11 8 = true := by decide +kernel
  go_enter Tryd.func4, Tryd.ntmps4
  go_wp2_with fail
  refine (new6 _ _).mono ?_
  rintro e w1 ⟨rfl, rfl⟩
  go_wp2_with fail
  refine (new6 _ _).mono ?_
  rintro e w1 ⟨rfl, rfl⟩
  go_wp2_with fail
  refine wp_loop_rounds 5 ?_
  rw [rounds_succ]
  go_wp2_with fail
  refine (name9_0 _).mono ?_
  rintro e w1 ⟨rfl, rfl⟩
  go_wp2_with fail
  refine (has7_0 _ _ _ (H.out.keep ?_) ix_0).mono ?_
  · exact grew (by repeat (first | exact Grew.refl _ | refine Grew.alloc ?_ _))
  rintro e w1 ⟨rfl, rfl⟩
  go_wp2_with fail
  refine (has7_0 _ _ _ (H.out.keep ?_) ix_0).mono ?_
  · exact grew (by repeat (first | exact Grew.refl _ | refine Grew.alloc ?_ _))
  rintro e w1 ⟨rfl, rfl⟩
  go_wp2_with fail
  rw [rounds_succ]
  go_wp2_with fail
  refine (name9_1 _).mono ?_
  rintro e w1 ⟨rfl, rfl⟩
  go_wp2_with fail
  refine (has7_1 _ _ _ (H.out.keep ?_) ix_1).mono ?_
  · exact grew (by repeat (first | exact Grew.refl _ | refine Grew.alloc ?_ _))
  rintro e w1 ⟨rfl, rfl⟩
  go_wp2_with fail
  refine (has7_1 _ _ _ (H.out.keep ?_) ix_1).mono ?_
  · exact grew (by repeat (first | exact Grew.refl _ | refine Grew.alloc ?_ _))
  rintro e w1 ⟨rfl, rfl⟩
  go_wp2_with fail
  rw [rounds_succ]
  go_wp2_with fail
  refine (name9_2 _).mono ?_
  rintro e w1 ⟨rfl, rfl⟩
  go_wp2_with fail
  refine (has7_2 _ _ _ (H.out.keep ?_) ix_2).mono ?_
  · exact grew (by repeat (first | exact Grew.refl _ | refine Grew.alloc ?_ _))
  rintro e w1 ⟨rfl, rfl⟩
  go_wp2_with fail
  refine (has7_2 _ _ _ (H.out.keep ?_) ix_2).mono ?_
  · exact grew (by repeat (first | exact Grew.refl _ | refine Grew.alloc ?_ _))
  rintro e w1 ⟨rfl, rfl⟩
  go_wp2_with fail
  rw [rounds_succ]
  go_wp2_with fail
  refine (name9_3 _).mono ?_
  rintro e w1 ⟨rfl, rfl⟩
  go_wp2_with fail
  refine (has7_3 _ _ _ (H.out.keep ?_) ix_3).mono ?_
  · exact grew (by repeat (first | exact Grew.refl _ | refine Grew.alloc ?_ _))
  rintro e w1 ⟨rfl, rfl⟩
  go_wp2_with fail
  refine (has7_3 _ _ _ (H.out.keep ?_) ix_3).mono ?_
  · exact grew (by repeat (first | exact Grew.refl _ | refine Grew.alloc ?_ _))
  rintro e w1 ⟨rfl, rfl⟩
  go_wp2_with fail
  rw [rounds_succ]
  go_wp2
  go_ret
  exact ⟨rfl, grew (by repeat (first | exact Grew.refl _ | refine Grew.alloc ?_ _))⟩

set_option maxHeartbeats 1000000 in
theorem dec_5 (w : World) (hl : Listed w) : Calls Tryd.prog 4 #[.int .u8 5] w fun e w' => e = .returned (.bool true) ∧ Below w.heap.size w w' := by
  have H : Hid (Listed w) := hl
  clear hl
  have a0 : hasB 5 1 = true := by decide +kernel
  have a1 : hasB 5 2 = false := by decide +kernel
  have a2 : hasB 5 4 = true := by decide +kernel
  have a3 : hasB 5 8 = false := by decide +kernel
  have x0 : bits BinOp.xor IntKind.u8 15 5 = 10 := by decide +kernel
  have c0 : hasB 10 1 = false := by decide +kernel
  have c1 : hasB 10 2 = true := by decide +kernel
  have c2 : hasB 10 4 = false := by decide +kernel
  have c3 : hasB 10 8 = true := by decide +kernel
  go_enter Tryd.func4, Tryd.ntmps4
  go_wp2_with fail
  refine (new6 _ _).mono ?_
  rintro e w1 ⟨rfl, rfl⟩
  go_wp2_with fail
  refine (new6 _ _).mono ?_
  rintro e w1 ⟨rfl, rfl⟩
  go_wp2_with fail
  refine wp_loop_rounds 5 ?_
  rw [rounds_succ]
  go_wp2_with fail
  refine (name9_0 _).mono ?_
  rintro e w1 ⟨rfl, rfl⟩
  go_wp2_with fail
  refine (has7_0 _ _ _ (H.out.keep ?_) ix_0).mono ?_
  · exact grew (by repeat (first | exact Grew.refl _ | refine Grew.alloc ?_ _))
  rintro e w1 ⟨rfl, rfl⟩
  go_wp2_with fail
  refine (has7_0 _ _ _ (H.out.keep ?_) ix_0).mono ?_
  · exact grew (by repeat (first | exact Grew.refl _ | refine Grew.alloc ?_ _))
  rintro e w1 ⟨rfl, rfl⟩
  go_wp2_with fail
  rw [rounds_succ]
  go_wp2_with fail
  refine (name9_1 _).mono ?_
  rintro e w1 ⟨rfl, rfl⟩
  go_wp2_with fail
  refine (has7_1 _ _ _ (H.out.keep ?_) ix_1).mono ?_
  · exact grew (by repeat (first | exact Grew.refl _ | refine Grew.alloc ?_ _))
  rintro e w1 ⟨rfl, rfl⟩
  go_wp2_with fail
  refine (has7_1 _ _ _ (H.out.keep ?_) ix_1).mono ?_
  · exact grew (by repeat (first | exact Grew.refl _ | refine Grew.alloc ?_ _))
  rintro e w1 ⟨rfl, rfl⟩
  go_wp2_with fail
  rw [rounds_succ]
  go_wp2_with fail
  refine (name9_2 _).mono ?_
  rintro e w1 ⟨rfl, rfl⟩
  go_wp2_with fail
  refine (has7_2 _ _ _ (H.out.keep ?_) ix_2).mono ?_
  · exact grew (by repeat (first | exact Grew.refl _ | refine Grew.alloc ?_ _))
  rintro e w1 ⟨rfl, rfl⟩
  go_wp2_with fail
  refine (has7_2 _ _ _ (H.out.keep ?_) ix_2).mono ?_
  · exact grew (by repeat (first | exact Grew.refl _ | refine Grew.alloc ?_ _))
  rintro e w1 ⟨rfl, rfl⟩
  go_wp2_with fail
  rw [rounds_succ]
  go_wp2_with fail
  refine (name9_3 _).mono ?_
  rintro e w1 ⟨rfl, rfl⟩
  go_wp2_with fail
  refine (has7_3 _ _ _ (H.out.keep ?_) ix_3).mono ?_
  · exact grew (by repeat (first | exact Grew.refl _ | refine Grew.alloc ?_ _))
  rintro e w1 ⟨rfl, rfl⟩
  go_wp2_with fail
  refine (has7_3 _ _ _ (H.out.keep ?_) ix_3).mono ?_
  · exact grew (by repeat (first | exact Grew.refl _ | refine Grew.alloc ?_ _))
  rintro e w1 ⟨rfl, rfl⟩
  go_wp2_with fail
  rw [rounds_succ]
  go_wp2
  go_ret
  exact ⟨rfl, grew (by repeat (first | exact Grew.refl _ | refine Grew.alloc ?_ _))⟩

set_option maxHeartbeats 1000000 in
theorem dec_6 (w : World) (hl : Listed w) : Calls Tryd.prog 4 #[.int .u8 6] w fun e w' => e = .returned (.bool true) ∧ Below w.heap.size w w' := by
  have H : Hid (Listed w) := hl
  clear hl
  have a0 : hasB 6 1 = false := by decide +kernel
  have a1 : hasB 6 2 = true := by decide +kernel
  have a2 : hasB 6 4 = true := by decide +kernel
  have a3 : hasB 6 8 = false := by decide +kernel
  have x0 : bits BinOp.xor IntKind.u8 15 6 = 9 := by decide +kernel
  have c0 : hasB 9 1 = true := by decide +kernel
  have c1 : hasB 9 2 = false := by decide +kernel
  have c2 : hasB 9 4 = false := by decide +kernel
  have c3 : hasB 9 8 = true := by decide +kernel
  go_enter Tryd.func4, Tryd.ntmps4
  go_wp2_with fail
  refine (new6 _ _).mono ?_
  rintro e w1 ⟨rfl, rfl⟩
  go_wp2_with fail
  refine (new6 _ _).mono ?_
  rintro e w1 ⟨rfl, rfl⟩
  go_wp2_with fail
  refine wp_loop_rounds 5 ?_
  rw [rounds_succ]
  go_wp2_with fail
  refine (name9_0 _).mono ?_
  rintro e w1 ⟨rfl, rfl⟩
  go_wp2_with fail
  refine (has7_0 _ _ _ (H.out.keep ?_) ix_0).mono ?_
  · exact grew (by repeat (first | exact Grew.refl _ | refine Grew.alloc ?_ _))
  rintro e w1 ⟨rfl, rfl⟩
  go_wp2_with fail
  refine (has7_0 _ _ _ (H.out.keep ?_) ix_0).mono ?_
  · exact grew (by repeat (first | exact Grew.refl _ | refine Grew.alloc ?_ _))
  rintro e w1 ⟨rfl, rfl⟩
  go_wp2_with fail
  rw [rounds_succ]
  go_wp2_with fail
  refine (name9_1 _).mono ?_
  rintro e w1 ⟨rfl, rfl⟩
  go_wp2_with fail
  refine (has7_1 _ _ _ (H.out.keep ?_) ix_1).mono ?_
  · exact grew (by repeat (first | exact Grew.refl _ | refine Grew.alloc ?_ _))
  rintro e w1 ⟨rfl, rfl⟩
  go_wp2_with fail
  refine (has7_1 _ _ _ (H.out.keep ?_) ix_1).mono ?_
  · exact grew (by repeat (first | exact Grew.refl _ | refine Grew.alloc ?_ _))
  rintro e w1 ⟨rfl, rfl⟩
  go_wp2_with fail
  rw [rounds_succ]
  go_wp2_with fail
  refine (name9_2 _).mono ?_
  rintro e w1 ⟨rfl, rfl⟩
  go_wp2_with fail
  refine (has7_2 _ _ _ (H.out.keep ?_) ix_2).mono ?_
  · exact grew (by repeat (first | exact Grew.refl _ | refine Grew.alloc ?_ _))
  rintro e w1 ⟨rfl, rfl⟩
  go_wp2_with fail
  refine (has7_2 _ _ _ (H.out.keep ?_) ix_2).mono ?_
  · exact grew (by repeat (first | exact Grew.refl _ | refine Grew.alloc ?_ _))
  rintro e w1 ⟨rfl, rfl⟩
  go_wp2_with fail
  rw [rounds_succ]
  go_wp2_with fail
  refine (name9_3 _).mono ?_
  rintro e w1 ⟨rfl, rfl⟩
  go_wp2_with fail
  refine (has7_3 _ _ _ (H.out.keep ?_) ix_3).mono ?_
  · exact grew (by repeat (first | exact Grew.refl _ | refine Grew.alloc ?_ _))
  rintro e w1 ⟨rfl, rfl⟩
  go_wp2_with fail
  refine (has7_3 _ _ _ (H.out.keep ?_) ix_3).mono ?_
  · exact grew (by repeat (first | exact Grew.refl _ | refine Grew.alloc ?_ _))
  rintro e w1 ⟨rfl, rfl⟩
  go_wp2_with fail
  rw [rounds_succ]
  go_wp2
  go_ret
  exact ⟨rfl, grew (by repeat (first | exact Grew.refl _ | refine Grew.alloc ?_ _))⟩

set_option maxHeartbeats 1000000 in
theorem dec_7 (w : World) (hl : Listed w) : Calls Tryd.prog 4 #[.int .u8 7] w fun e w' => e = .returned (.bool true) ∧ Below w.heap.size w w' := by
  have H : Hid (Listed w) := hl
  clear hl
  have a0 : hasB 7 1 = true := by decide +kernel
  have a1 : hasB 7 2 = true := by decide +kernel
  have a2 : hasB 7 4 = true := by decide +kernel
  have a3 : hasB 7 8 = false := by decide +kernel
  have x0 : bits BinOp.xor IntKind.u8 15 7 = 8 := by decide +kernel
  have c0 : hasB 8 1 = false := by decide +kernel
  have c1 : hasB 8 2 = false := by decide +kernel
  have c2 : hasB 8 4 = false := by decide +kernel
  have c3 : hasB 8 8 = true := by decide +kernel
  go_enter Tryd.func4, Tryd.ntmps4
  go_wp2_with fail
  refine (new6 _ _).mono ?_
  rintro e w1 ⟨rfl, rfl⟩
  go_wp2_with fail
  refine (new6 _ _).mono ?_
  rintro e w1 ⟨rfl, rfl⟩
  go_wp2_with fail
  refine wp_loop_rounds 5 ?_
  rw [rounds_succ]
  go_wp2_with fail
  refine (name9_0 _).mono ?_
  rintro e w1 ⟨rfl, rfl⟩
  go_wp2_with fail
  refine (has7_0 _ _ _ (H.out.keep ?_) ix_0).mono ?_
  · exact grew (by repeat (first | exact Grew.refl _ | refine Grew.alloc ?_ _))
  rintro e w1 ⟨rfl, rfl⟩
  go_wp2_with fail
  refine (has7_0 _ _ _ (H.out.keep ?_) ix_0).mono ?_
  · exact grew (by repeat (first | exact Grew.refl _ | refine Grew.alloc ?_ _))
  rintro e w1 ⟨rfl, rfl⟩
  go_wp2_with fail
  rw [rounds_succ]
  go_wp2_with fail
  refine (name9_1 _).mono ?_
  rintro e w1 ⟨rfl, rfl⟩
  go_wp2_with fail
  refine (has7_1 _ _ _ (H.out.keep ?_) ix_1).mono ?_
  · exact grew (by repeat (first | exact Grew.refl _ | refine Grew.alloc ?_ _))
  rintro e w1 ⟨rfl, rfl⟩
  go_wp2_with fail
  refine (has7_1 _ _ _ (H.out.keep ?_) ix_1).mono ?_
  · exact grew (by repeat (first | exact Grew.refl _ | refine Grew.alloc ?_ _))
  rintro e w1 ⟨rfl, rfl⟩
  go_wp2_with fail
  rw [rounds_succ]
  go_wp2_with fail
  refine (name9_2 _).mono ?_
  rintro e w1 ⟨rfl, rfl⟩
  go_wp2_with fail
  refine (has7_2 _ _ _ (H.out.keep ?_) ix_2).mono ?_
  · exact grew (by repeat (first | exact Grew.refl _ | refine Grew.alloc ?_ _))
  rintro e w1 ⟨rfl, rfl⟩
  go_wp2_with fail
  refine (has7_2 _ _ _ (H.out.keep ?_) ix_2).mono ?_
  · exact grew (by repeat (first | exact Grew.refl _ | refine Grew.alloc ?_ _))
  rintro e w1 ⟨rfl, rfl⟩
  go_wp2_with fail
  rw [rounds_succ]
  go_wp2_with fail
  refine (name9_3 _).mono ?_
  rintro e w1 ⟨rfl, rfl⟩
  go_wp2_with fail
  refine (has7_3 _ _ _ (H.out.keep ?_) ix_3).mono ?_
  · exact grew (by repeat (first | exact Grew.refl _ | refine Grew.alloc ?_ _))
  rintro e w1 ⟨rfl, rfl⟩
  go_wp2_with fail
  refine (has7_3 _ _ _ (H.out.keep ?_) ix_3).mono ?_
  · exact grew (by repeat (first | exact Grew.refl _ | refine Grew.alloc ?_ _))
  rintro e w1 ⟨rfl, rfl⟩
  go_wp2_with fail
  rw [rounds_succ]
  go_wp2
  go_ret
  exact ⟨rfl, grew (by repeat (first | exact Grew.refl _ | refine Grew.alloc ?_ _))⟩

set_option maxHeartbeats 1000000 in
theorem dec_8 (w : World) (hl : Listed w) : Calls Tryd.prog 4 #[.int .u8 8] w fun e w' => e = .returned (.bool true) ∧ Below w.heap.size w w' := by
  have H : Hid (Listed w) := hl
  clear hl
  have a0 : hasB 8 1 = false := by decide +kernel
  have a1 : hasB 8 2 = false := by decide +kernel
  have a2 : hasB 8 4 = false := by decide +kernel
  have a3 : hasB 8 8 = true := by decide +kernel
  have x0 : bits BinOp.xor IntKind.u8 15 8 = 7 := by decide +kernel
  have c0 : hasB 7 1 = true := by decide +kernel
  have c1 : hasB 7 2 = true := by decide +kernel
  have c2 : hasB 7 4 = true := by decide +kernel
  have c3 : hasB 7 8 = false := by decide +kernel
  go_enter Tryd.func4, Tryd.ntmps4
  go_wp2_with fail
  refine (new6 _ _).mono ?_
  rintro e w1 ⟨rfl, rfl⟩
  go_wp2_with fail
  refine (new6 _ _).mono ?_
  rintro e w1 ⟨rfl, rfl⟩
  go_wp2_with fail
  refine wp_loop_rounds 5 ?_
  rw [rounds_succ]
  go_wp2_with fail
  refine (name9_0 _).mono ?_
  rintro e w1 ⟨rfl, rfl⟩
  go_wp2_with fail
  refine (has7_0 _ _ _ (H.out.keep ?_) ix_0).mono ?_
  · exact grew (by repeat (first | exact Grew.refl _ | refine Grew.alloc ?_ _))
  rintro e w1 ⟨rfl, rfl⟩
  go_wp2_with fail
  refine (has7_0 _ _ _ (H.out.keep ?_) ix_0).mono ?_
  · exact grew (by repeat (first | exact Grew.refl _ | refine Grew.alloc ?_ _))
  rintro e w1 ⟨rfl, rfl⟩
  go_wp2_with fail
  rw [rounds_succ]
  go_wp2_with fail
  refine (name9_1 _).mono ?_
  rintro e w1 ⟨rfl, rfl⟩
  go_wp2_with fail
  refine (has7_1 _ _ _ (H.out.keep ?_) ix_1).mono ?_
  · exact grew (by repeat (first | exact Grew.refl _ | refine Grew.alloc ?_ _))
  rintro e w1 ⟨rfl, rfl⟩
  go_wp2_with fail
  refine (has7_1 _ _ _ (H.out.keep ?_) ix_1).mono ?_
  · exact grew (by repeat (first | exact Grew.refl _ | refine Grew.alloc ?_ _))
  rintro e w1 ⟨rfl, rfl⟩
  go_wp2_with fail
  rw [rounds_succ]
  go_wp2_with fail
  refine (name9_2 _).mono ?_
  rintro e w1 ⟨rfl, rfl⟩
  go_wp2_with fail
  refine (has7_2 _ _ _ (H.out.keep ?_) ix_2).mono ?_
  · exact grew (by repeat (first | exact Grew.refl _ | refine Grew.alloc ?_ _))
  rintro e w1 ⟨rfl, rfl⟩
  go_wp2_with fail
  refine (has7_2 _ _ _ (H.out.keep ?_) ix_2).mono ?_
  · exact grew (by repeat (first | exact Grew.refl _ | refine Grew.alloc ?_ _))
  rintro e w1 ⟨rfl, rfl⟩
  go_wp2_with fail
  rw [rounds_succ]
  go_wp2_with fail
  refine (name9_3 _).mono ?_
  rintro e w1 ⟨rfl, rfl⟩
  go_wp2_with fail
  refine (has7_3 _ _ _ (H.out.keep ?_) ix_3).mono ?_
  · exact grew (by repeat (first | exact Grew.refl _ | refine Grew.alloc ?_ _))
  rintro e w1 ⟨rfl, rfl⟩
  go_wp2_with fail
  refine (has7_3 _ _ _ (H.out.keep ?_) ix_3).mono ?_
  · exact grew (by repeat (first | exact Grew.refl _ | refine Grew.alloc ?_ _))
  rintro e w1 ⟨rfl, rfl⟩
  go_wp2_with fail
  rw [rounds_succ]
  go_wp2
  go_ret
  exact ⟨rfl, grew (by repeat (first | exact Grew.refl _ | refine Grew.alloc ?_ _))⟩

set_option maxHeartbeats 1000000 in
theorem dec_9 (w : World) (hl : Listed w) : Calls Tryd.prog 4 #[.int .u8 9] w fun e w' => e = .returned (.bool true) ∧ Below w.heap.size w w' := by
  have H : Hid (Listed w) := hl
  clear hl
  have a0 : hasB 9 1 = true := by decide +kernel
  have a1 : hasB 9 2 = false := by decide +kernel
  have a2 : hasB 9 4 = false := by decide +kernel
  have a3 : hasB 9 8 = true := by decide +kernel
  have x0 : bits BinOp.xor IntKind.u8 15 9 = 6 := by decide +kernel
  have c0 : hasB 6 1 = false := by decide +kernel
  have c1 : hasB 6 2 = true := by decide +kernel
  have c2 : hasB 6 4 = true := by decide +kernel
  have c3 : hasB 6 8 = false := by decide +kernel
  go_enter Tryd.func4, Tryd.ntmps4
  go_wp2_with fail
  refine (new6 _ _).mono ?_
  rintro e w1 ⟨rfl, rfl⟩
  go_wp2_with fail
  refine (new6 _ _).mono ?_
  rintro e w1 ⟨rfl, rfl⟩
  go_wp2_with fail
  refine wp_loop_rounds 5 ?_
  rw [rounds_succ]
  go_wp2_with fail
  refine (name9_0 _).mono ?_
  rintro e w1 ⟨rfl, rfl⟩
  go_wp2_with fail
  refine (has7_0 _ _ _ (H.out.keep ?_) ix_0).mono ?_
  · exact grew (by repeat (first | exact Grew.refl _ | refine Grew.alloc ?_ _))
  rintro e w1 ⟨rfl, rfl⟩
  go_wp2_with fail
  refine (has7_0 _ _ _ (H.out.keep ?_) ix_0).mono ?_
  · exact grew (by repeat (first | exact Grew.refl _ | refine Grew.alloc ?_ _))
  rintro e w1 ⟨rfl, rfl⟩
  go_wp2_with fail
  rw [rounds_succ]
  go_wp2_with fail
  refine (name9_1 _).mono ?_
  rintro e w1 ⟨rfl, rfl⟩
  go_wp2_with fail
  refine (has7_1 _ _ _ (H.out.keep ?_) ix_1).mono ?_
  · exact grew (by repeat (first | exact Grew.refl _ | refine Grew.alloc ?_ _))
  rintro e w1 ⟨rfl, rfl⟩
  go_wp2_with fail
  refine (has7_1 _ _ _ (H.out.keep ?_) ix_1).mono ?_
  · exact grew (by repeat (first | exact Grew.refl _ | refine Grew.alloc ?_ _))
  rintro e w1 ⟨rfl, rfl⟩
  go_wp2_with fail
  rw [rounds_succ]
  go_wp2_with fail
  refine (name9_2 _).mono ?_
  rintro e w1 ⟨rfl, rfl⟩
  go_wp2_with fail
  refine (has7_2 _ _ _ (H.out.keep ?_) ix_2).mono ?_
  · exact grew (by repeat (first | exact Grew.refl _ | refine Grew.alloc ?_ _))
  rintro e w1 ⟨rfl, rfl⟩
  go_wp2_with fail
  refine (has7_2 _ _ _ (H.out.keep ?_) ix_2).mono ?_
  · exact grew (by repeat (first | exact Grew.refl _ | refine Grew.alloc ?_ _))
  rintro e w1 ⟨rfl, rfl⟩
  go_wp2_with fail
  rw [rounds_succ]
  go_wp2_with fail
  refine (name9_3 _).mono ?_
  rintro e w1 ⟨rfl, rfl⟩
  go_wp2_with fail
  refine (has7_3 _ _ _ (H.out.keep ?_) ix_3).mono ?_
  · exact grew (by repeat (first | exact Grew.refl _ | refine Grew.alloc ?_ _))
  rintro e w1 ⟨rfl, rfl⟩
  go_wp2_with fail
  refine (has7_3 _ _ _ (H.out.keep ?_) ix_3).mono ?_
  · exact grew (by repeat (first | exact Grew.refl _ | refine Grew.alloc ?_ _))
  rintro e w1 ⟨rfl, rfl⟩
  go_wp2_with fail
  rw [rounds_succ]
  go_wp2
  go_ret
  exact ⟨rfl, grew (by repeat (first | exact Grew.refl _ | refine Grew.alloc ?_ _))⟩

set_option maxHeartbeats 1000000 in
theorem dec_10 (w : World) (hl : Listed w) : Calls Tryd.prog 4 #[.int .u8 10] w fun e w' => e = .returned (.bool true) ∧ Below w.heap.size w w' := by
  have H : Hid (Listed w) := hl
  clear hl
  have a0 : hasB 10 1 = false := by decide +kernel
  have a1 : hasB 10 2 = true := by decide +kernel
  have a2 : hasB 10 4 = false := by decide +kernel
  have a3 : hasB 10 8 = true := by decide +kernel
  have x0 : bits BinOp.xor IntKind.u8 15 10 = 5 := by decide +kernel
  have c0 : hasB 5 1 = true := by decide +kernel
  have c1 : hasB 5 2 = false := by decide +kernel
  have c2 : hasB 5 4 = true := by decide +kernel
  have c3 : hasB 5 8 = false := by decide +kernel
  go_enter Tryd.func4, Tryd.ntmps4
  go_wp2_with fail
  refine (new6 _ _).mono ?_
  rintro e w1 ⟨rfl, rfl⟩
  go_wp2_with fail
  refine (new6 _ _).mono ?_
  rintro e w1 ⟨rfl, rfl⟩
  go_wp2_with fail
  refine wp_loop_rounds 5 ?_
  rw [rounds_succ]
  go_wp2_with fail
  refine (name9_0 _).mono ?_
  rintro e w1 ⟨rfl, rfl⟩
  go_wp2_with fail
  refine (has7_0 _ _ _ (H.out.keep ?_) ix_0).mono ?_
  · exact grew (by repeat (first | exact Grew.refl _ | refine Grew.alloc ?_ _))
  rintro e w1 ⟨rfl, rfl⟩
  go_wp2_with fail
  refine (has7_0 _ _ _ (H.out.keep ?_) ix_0).mono ?_
  · exact grew (by repeat (first | exact Grew.refl _ | refine Grew.alloc ?_ _))
  rintro e w1 ⟨rfl, rfl⟩
  go_wp2_with fail
  rw [rounds_succ]
  go_wp2_with fail
  refine (name9_1 _).mono ?_
  rintro e w1 ⟨rfl, rfl⟩
  go_wp2_with fail
  refine (has7_1 _ _ _ (H.out.keep ?_) ix_1).mono ?_
  · exact grew (by repeat (first | exact Grew.refl _ | refine Grew.alloc ?_ _))
  rintro e w1 ⟨rfl, rfl⟩
  go_wp2_with fail
  refine (has7_1 _ _ _ (H.out.keep ?_) ix_1).mono ?_
  · exact grew (by repeat (first | exact Grew.refl _ | refine Grew.alloc ?_ _))
  rintro e w1 ⟨rfl, rfl⟩
  go_wp2_with fail
  rw [rounds_succ]
  go_wp2_with fail
  refine (name9_2 _).mono ?_
  rintro e w1 ⟨rfl, rfl⟩
  go_wp2_with fail
  refine (has7_2 _ _ _ (H.out.keep ?_) ix_2).mono ?_
  · exact grew (by repeat (first | exact Grew.refl _ | refine Grew.alloc ?_ _))
  rintro e w1 ⟨rfl, rfl⟩
  go_wp2_with fail
  refine (has7_2 _ _ _ (H.out.keep ?_) ix_2).mono ?_
  · exact grew (by repeat (first | exact Grew.refl _ | refine Grew.alloc ?_ _))
  rintro e w1 ⟨rfl, rfl⟩
  go_wp2_with fail
  rw [rounds_succ]
  go_wp2_with fail
  refine (name9_3 _).mono ?_
  rintro e w1 ⟨rfl, rfl⟩
  go_wp2_with fail
  refine (has7_3 _ _ _ (H.out.keep ?_) ix_3).mono ?_
  · exact grew (by repeat (first | exact Grew.refl _ | refine Grew.alloc ?_ _))
  rintro e w1 ⟨rfl, rfl⟩
  go_wp2_with fail
  refine (has7_3 _ _ _ (H.out.keep ?_) ix_3).mono ?_
  · exact grew (by repeat (first | exact Grew.refl _ | refine Grew.alloc ?_ _))
  rintro e w1 ⟨rfl, rfl⟩
  go_wp2_with fail
  rw [rounds_succ]
  go_wp2
  go_ret
  exact ⟨rfl, grew (by repeat (first | exact Grew.refl _ | refine Grew.alloc ?_ _))⟩

set_option maxHeartbeats 1000000 in
theorem dec_11 (w : World) (hl : Listed w) : Calls Tryd.prog 4 #[.int .u8 11] w fun e w' => e = .returned (.bool true) ∧ Below w.heap.size w w' := by
  have H : Hid (Listed w) := hl
  clear hl
  have a0 : hasB 11 1 = true := by decide +kernel
  have a1 : hasB 11 2 = true := by decide +kernel
  have a2 : hasB 11 4 = false := by decide +kernel
  have a3 : hasB 11 8 = true := by decide +kernel
  have x0 : bits BinOp.xor IntKind.u8 15 11 = 4 := by decide +kernel
  have c0 : hasB 4 1 = false := by decide +kernel
  have c1 : hasB 4 2 = false := by decide +kernel
  have c2 : hasB 4 4 = true := by decide +kernel
  have c3 : hasB 4 8 = false := by decide +kernel
  go_enter Tryd.func4, Tryd.ntmps4
  go_wp2_with fail
  refine (new6 _ _).mono ?_
  rintro e w1 ⟨rfl, rfl⟩
  go_wp2_with fail
  refine (new6 _ _).mono ?_
  rintro e w1 ⟨rfl, rfl⟩
  go_wp2_with fail
  refine wp_loop_rounds 5 ?_
  rw [rounds_succ]
  go_wp2_with fail
  refine (name9_0 _).mono ?_
  rintro e w1 ⟨rfl, rfl⟩
  go_wp2_with fail
  refine (has7_0 _ _ _ (H.out.keep ?_) ix_0).mono ?_
  · exact grew (by repeat (first | exact Grew.refl _ | refine Grew.alloc ?_ _))
  rintro e w1 ⟨rfl, rfl⟩
  go_wp2_with fail
  refine (has7_0 _ _ _ (H.out.keep ?_) ix_0).mono ?_
  · exact grew (by repeat (first | exact Grew.refl _ | refine Grew.alloc ?_ _))
  rintro e w1 ⟨rfl, rfl⟩
  go_wp2_with fail
  rw [rounds_succ]
  go_wp2_with fail
  refine (name9_1 _).mono ?_
  rintro e w1 ⟨rfl, rfl⟩
  go_wp2_with fail
  refine (has7_1 _ _ _ (H.out.keep ?_) ix_1).mono ?_
  · exact grew (by repeat (first | exact Grew.refl _ | refine Grew.alloc ?_ _))
  rintro e w1 ⟨rfl, rfl⟩
  go_wp2_with fail
  refine (has7_1 _ _ _ (H.out.keep ?_) ix_1).mono ?_
  · exact grew (by repeat (first | exact Grew.refl _ | refine Grew.alloc ?_ _))
  rintro e w1 ⟨rfl, rfl⟩
  go_wp2_with fail
  rw [rounds_succ]
  go_wp2_with fail
  refine (name9_2 _).mono ?_
  rintro e w1 ⟨rfl, rfl⟩
  go_wp2_with fail
  refine (has7_2 _ _ _ (H.out.keep ?_) ix_2).mono ?_
  · exact grew (by repeat (first | exact Grew.refl _ | refine Grew.alloc ?_ _))
  rintro e w1 ⟨rfl, rfl⟩
  go_wp2_with fail
  refine (has7_2 _ _ _ (H.out.keep ?_) ix_2).mono ?_
  · exact grew (by repeat (first | exact Grew.refl _ | refine Grew.alloc ?_ _))
  rintro e w1 ⟨rfl, rfl⟩
  go_wp2_with fail
  rw [rounds_succ]
  go_wp2_with fail
  refine (name9_3 _).mono ?_
  rintro e w1 ⟨rfl, rfl⟩
  go_wp2_with fail
  refine (has7_3 _ _ _ (H.out.keep ?_) ix_3).mono ?_
  · exact grew (by repeat (first | exact Grew.refl _ | refine Grew.alloc ?_ _))
  rintro e w1 ⟨rfl, rfl⟩
  go_wp2_with fail
  refine (has7_3 _ _ _ (H.out.keep ?_) ix_3).mono ?_
  · exact grew (by repeat (first | exact Grew.refl _ | refine Grew.alloc ?_ _))
  rintro e w1 ⟨rfl, rfl⟩
  go_wp2_with fail
  rw [rounds_succ]
  go_wp2
  go_ret
  exact ⟨rfl, grew (by repeat (first | exact Grew.refl _ | refine Grew.alloc ?_ _))⟩

set_option maxHeartbeats 1000000 in
theorem dec_12 (w : World) (hl : Listed w) : Calls Tryd.prog 4 #[.int .u8 12] w fun e w' => e = .returned (.bool true) ∧ Below w.heap.size w w' := by
  have H : Hid (Listed w) := hl
  clear hl
  have a0 : hasB 12 1 = false := by decide +kernel
  have a1 : hasB 12 2 = false := by decide +kernel
  have a2 : hasB 12 4 = true := by decide +kernel
  have a3 : hasB 12 8 = true := by decide +kernel
  have x0 : bits BinOp.xor IntKind.u8 15 12 = 3 := by decide +kernel
  have c0 : hasB 3 1 = true := by decide +kernel
  have c1 : hasB 3 2 = true := by decide +kernel
  have c2 : hasB 3 4 = false := by decide +kernel
  have c3 : hasB 3 8 = false := by decide +kernel
  go_enter Tryd.func4, Tryd.ntmps4
  go_wp2_with fail
  refine (new6 _ _).mono ?_
  rintro e w1 ⟨rfl, rfl⟩
  go_wp2_with fail
  refine (new6 _ _).mono ?_
  rintro e w1 ⟨rfl, rfl⟩
  go_wp2_with fail
  refine wp_loop_rounds 5 ?_
  rw [rounds_succ]
  go_wp2_with fail
  refine (name9_0 _).mono ?_
  rintro e w1 ⟨rfl, rfl⟩
  go_wp2_with fail
  refine (has7_0 _ _ _ (H.out.keep ?_) ix_0).mono ?_
  · exact grew (by repeat (first | exact Grew.refl _ | refine Grew.alloc ?_ _))
  rintro e w1 ⟨rfl, rfl⟩
  go_wp2_with fail
  refine (has7_0 _ _ _ (H.out.keep ?_) ix_0).mono ?_
  · exact grew (by repeat (first | exact Grew.refl _ | refine Grew.alloc ?_ _))
  rintro e w1 ⟨rfl, rfl⟩
  go_wp2_with fail
  rw [rounds_succ]
  go_wp2_with fail
  refine (name9_1 _).mono ?_
  rintro e w1 ⟨rfl, rfl⟩
  go_wp2_with fail
  refine (has7_1 _ _ _ (H.out.keep ?_) ix_1).mono ?_
  · exact grew (by repeat (first | exact Grew.refl _ | refine Grew.alloc ?_ _))
  rintro e w1 ⟨rfl, rfl⟩
  go_wp2_with fail
  refine (has7_1 _ _ _ (H.out.keep ?_) ix_1).mono ?_
  · exact grew (by repeat (first | exact Grew.refl _ | refine Grew.alloc ?_ _))
  rintro e w1 ⟨rfl, rfl⟩
  go_wp2_with fail
  rw [rounds_succ]
  go_wp2_with fail
  refine (name9_2 _).mono ?_
  rintro e w1 ⟨rfl, rfl⟩
  go_wp2_with fail
  refine (has7_2 _ _ _ (H.out.keep ?_) ix_2).mono ?_
  · exact grew (by repeat (first | exact Grew.refl _ | refine Grew.alloc ?_ _))
  rintro e w1 ⟨rfl, rfl⟩
  go_wp2_with fail
  refine (has7_2 _ _ _ (H.out.keep ?_) ix_2).mono ?_
  · exact grew (by repeat (first | exact Grew.refl _ | refine Grew.alloc ?_ _))
  rintro e w1 ⟨rfl, rfl⟩
  go_wp2_with fail
  rw [rounds_succ]
  go_wp2_with fail
  refine (name9_3 _).mono ?_
  rintro e w1 ⟨rfl, rfl⟩
  go_wp2_with fail
  refine (has7_3 _ _ _ (H.out.keep ?_) ix_3).mono ?_
  · exact grew (by repeat (first | exact Grew.refl _ | refine Grew.alloc ?_ _))
  rintro e w1 ⟨rfl, rfl⟩
  go_wp2_with fail
  refine (has7_3 _ _ _ (H.out.keep ?_) ix_3).mono ?_
  · exact grew (by repeat (first | exact Grew.refl _ | refine Grew.alloc ?_ _))
  rintro e w1 ⟨rfl, rfl⟩
  go_wp2_with fail
  rw [rounds_succ]
  go_wp2
  go_ret
  exact ⟨rfl, grew (by repeat (first | exact Grew.refl _ | refine Grew.alloc ?_ _))⟩

set_option maxHeartbeats 1000000 in
theorem dec_13 (w : World) (hl : Listed w) : Calls Tryd.prog 4 #[.int .u8 13] w fun e w' => e = .returned (.bool true) ∧ Below w.heap.size w w' := by
  have H : Hid (Listed w) := hl
  clear hl
  have a0 : hasB 13 1 = true := by decide +kernel
  have a1 : hasB 13 2 = false := by decide +kernel
  have a2 : hasB 13 4 = true := by decide +kernel
  have a3 : hasB 13 8 = true := by decide +kernel
  have x0 : bits BinOp.xor IntKind.u8 15 13 = 2 := by decide +kernel
  have c0 : hasB 2 1 = false := by decide +kernel
  have c1 : hasB 2 2 = true := by decide +kernel
  have c2 : hasB 2 4 = false := by decide +kernel
  have c3 : hasB 2 8 = false := by decide +kernel
  go_enter Tryd.func4, Tryd.ntmps4
  go_wp2_with fail
  refine (new6 _ _).mono ?_
  rintro e w1 ⟨rfl, rfl⟩
  go_wp2_with fail
  refine (new6 _ _).mono ?_
  rintro e w1 ⟨rfl, rfl⟩
  go_wp2_with fail
  refine wp_loop_rounds 5 ?_
  rw [rounds_succ]
  go_wp2_with fail
  refine (name9_0 _).mono ?_
  rintro e w1 ⟨rfl, rfl⟩
  go_wp2_with fail
  refine (has7_0 _ _ _ (H.out.keep ?_) ix_0).mono ?_
  · exact grew (by repeat (first | exact Grew.refl _ | refine Grew.alloc ?_ _))
  rintro e w1 ⟨rfl, rfl⟩
  go_wp2_with fail
  refine (has7_0 _ _ _ (H.out.keep ?_) ix_0).mono ?_
  · exact grew (by repeat (first | exact Grew.refl _ | refine Grew.alloc ?_ _))
  rintro e w1 ⟨rfl, rfl⟩
  go_wp2_with fail
  rw [rounds_succ]
  go_wp2_with fail
  refine (name9_1 _).mono ?_
  rintro e w1 ⟨rfl, rfl⟩
  go_wp2_with fail
  refine (has7_1 _ _ _ (H.out.keep ?_) ix_1).mono ?_
  · exact grew (by repeat (first | exact Grew.refl _ | refine Grew.alloc ?_ _))
  rintro e w1 ⟨rfl, rfl⟩
  go_wp2_with fail
  refine (has7_1 _ _ _ (H.out.keep ?_) ix_1).mono ?_
  · exact grew (by repeat (first | exact Grew.refl _ | refine Grew.alloc ?_ _))
  rintro e w1 ⟨rfl, rfl⟩
  go_wp2_with fail
  rw [rounds_succ]
  go_wp2_with fail
  refine (name9_2 _).mono ?_
  rintro e w1 ⟨rfl, rfl⟩
  go_wp2_with fail
  refine (has7_2 _ _ _ (H.out.keep ?_) ix_2).mono ?_
  · exact grew (by repeat (first | exact Grew.refl _ | refine Grew.alloc ?_ _))
  rintro e w1 ⟨rfl, rfl⟩
  go_wp2_with fail
  refine (has7_2 _ _ _ (H.out.keep ?_) ix_2).mono ?_
  · exact grew (by repeat (first | exact Grew.refl _ | refine Grew.alloc ?_ _))
  rintro e w1 ⟨rfl, rfl⟩
  go_wp2_with fail
  rw [rounds_succ]
  go_wp2_with fail
  refine (name9_3 _).mono ?_
  rintro e w1 ⟨rfl, rfl⟩
  go_wp2_with fail
  refine (has7_3 _ _ _ (H.out.keep ?_) ix_3).mono ?_
  · exact grew (by repeat (first | exact Grew.refl _ | refine Grew.alloc ?_ _))
  rintro e w1 ⟨rfl, rfl⟩
  go_wp2_with fail
  refine (has7_3 _ _ _ (H.out.keep ?_) ix_3).mono ?_
  · exact grew (by repeat (first | exact Grew.refl _ | refine Grew.alloc ?_ _))
  rintro e w1 ⟨rfl, rfl⟩
  go_wp2_with fail
  rw [rounds_succ]
  go_wp2
  go_ret
  exact ⟨rfl, grew (by repeat (first | exact Grew.refl _ | refine Grew.alloc ?_ _))⟩

set_option maxHeartbeats 1000000 in
theorem dec_14 (w : World) (hl : Listed w) : Calls Tryd.prog 4 #[.int .u8 14] w fun e w' => e = .returned (.bool true) ∧ Below w.heap.size w w' := by
  have H : Hid (Listed w) := hl
  clear hl
  have a0 : hasB 14 1 = false := by decide +kernel
  have a1 : hasB 14 2 = true := by decide +kernel
  have a2 : hasB 14 4 = true := by decide +kernel
  have a3 : hasB 14 8 = true := by decide +kernel
  have x0 : bits BinOp.xor IntKind.u8 15 14 = 1 := by decide +kernel
  have c0 : hasB 1 1 = true := by decide +kernel
  have c1 : hasB 1 2 = false := by decide +kernel
  have c2 : hasB 1 4 = false := by decide +kernel
  have c3 : hasB 1 8 = false := by decide +kernel
  go_enter Tryd.func4, Tryd.ntmps4
  go_wp2_with fail
  refine (new6 _ _).mono ?_
  rintro e w1 ⟨rfl, rfl⟩
  go_wp2_with fail
  refine (new6 _ _).mono ?_
  rintro e w1 ⟨rfl, rfl⟩
  go_wp2_with fail
  refine wp_loop_rounds 5 ?_
  rw [rounds_succ]
  go_wp2_with fail
  refine (name9_0 _).mono ?_
  rintro e w1 ⟨rfl, rfl⟩
  go_wp2_with fail
  refine (has7_0 _ _ _ (H.out.keep ?_) ix_0).mono ?_
  · exact grew (by repeat (first | exact Grew.refl _ | refine Grew.alloc ?_ _))
  rintro e w1 ⟨rfl, rfl⟩
  go_wp2_with fail
  refine (has7_0 _ _ _ (H.out.keep ?_) ix_0).mono ?_
  · exact grew (by repeat (first | exact Grew.refl _ | refine Grew.alloc ?_ _))
  rintro e w1 ⟨rfl, rfl⟩
  go_wp2_with fail
  rw [rounds_succ]
  go_wp2_with fail
  refine (name9_1 _).mono ?_
  rintro e w1 ⟨rfl, rfl⟩
  go_wp2_with fail
  refine (has7_1 _ _ _ (H.out.keep ?_) ix_1).mono ?_
  · exact grew (by repeat (first | exact Grew.refl _ | refine Grew.alloc ?_ _))
  rintro e w1 ⟨rfl, rfl⟩
  go_wp2_with fail
  refine (has7_1 _ _ _ (H.out.keep ?_) ix_1).mono ?_
  · exact grew (by repeat (first | exact Grew.refl _ | refine Grew.alloc ?_ _))
  rintro e w1 ⟨rfl, rfl⟩
  go_wp2_with fail
  rw [rounds_succ]
  go_wp2_with fail
  refine (name9_2 _).mono ?_
  rintro e w1 ⟨rfl, rfl⟩
  go_wp2_with fail
  refine (has7_2 _ _ _ (H.out.keep ?_) ix_2).mono ?_
  · exact grew (by repeat (first | exact Grew.refl _ | refine Grew.alloc ?_ _))
  rintro e w1 ⟨rfl, rfl⟩
  go_wp2_with fail
  refine (has7_2 _ _ _ (H.out.keep ?_) ix_2).mono ?_
  · exact grew (by repeat (first | exact Grew.refl _ | refine Grew.alloc ?_ _))
  rintro e w1 ⟨rfl, rfl⟩
  go_wp2_with fail
  rw [rounds_succ]
  go_wp2_with fail
  refine (name9_3 _).mono ?_
  rintro e w1 ⟨rfl, rfl⟩
  go_wp2_with fail
  refine (has7_3 _ _ _ (H.out.keep ?_) ix_3).mono ?_
  · exact grew (by repeat (first | exact Grew.refl _ | refine Grew.alloc ?_ _))
  rintro e w1 ⟨rfl, rfl⟩
  go_wp2_with fail
  refine (has7_3 _ _ _ (H.out.keep ?_) ix_3).mono ?_
  · exact grew (by repeat (first | exact Grew.refl _ | refine Grew.alloc ?_ _))
  rintro e w1 ⟨rfl, rfl⟩
  go_wp2_with fail
  rw [rounds_succ]
  go_wp2
  go_ret
  exact ⟨rfl, grew (by repeat (first | exact Grew.refl _ | refine Grew.alloc ?_ _))⟩

set_option maxHeartbeats 1000000 in
theorem dec_15 (w : World) (hl : Listed w) : Calls Tryd.prog 4 #[.int .u8 15] w fun e w' => e = .returned (.bool true) ∧ Below w.heap.size w w' := by
  have H : Hid (Listed w) := hl
  clear hl
  have a0 : hasB 15 1 = true := by decide +kernel
  have a1 : hasB 15 2 = true := by decide +kernel
  have a2 : hasB 15 4 = true := by decide +kernel
  have a3 : hasB 15 8 = true := by decide +kernel
  have x0 : bits BinOp.xor IntKind.u8 15 15 = 0 := by decide +kernel
  have c0 : hasB 0 1 = false := by decide +kernel
  have c1 : hasB 0 2 = false := by decide +kernel
  have c2 : hasB 0 4 = false := by decide +kernel
  have c3 : hasB 0 8 = false := by decide +kernel
  go_enter Tryd.func4, Tryd.ntmps4
  go_wp2_with fail
  refine (new6 _ _).mono ?_
  rintro e w1 ⟨rfl, rfl⟩
  go_wp2_with fail
  refine (new6 _ _).mono ?_
  rintro e w1 ⟨rfl, rfl⟩
  go_wp2_with fail
  refine wp_loop_rounds 5 ?_
  rw [rounds_succ]
  go_wp2_with fail
  refine (name9_0 _).mono ?_
  rintro e w1 ⟨rfl, rfl⟩
  go_wp2_with fail
  refine (has7_0 _ _ _ (H.out.keep ?_) ix_0).mono ?_
  · exact grew (by repeat (first | exact Grew.refl _ | refine Grew.alloc ?_ _))
  rintro e w1 ⟨rfl, rfl⟩
  go_wp2_with fail
  refine (has7_0 _ _ _ (H.out.keep ?_) ix_0).mono ?_
  · exact grew (by repeat (first | exact Grew.refl _ | refine Grew.alloc ?_ _))
  rintro e w1 ⟨rfl, rfl⟩
  go_wp2_with fail
  rw [rounds_succ]
  go_wp2_with fail
  refine (name9_1 _).mono ?_
  rintro e w1 ⟨rfl, rfl⟩
  go_wp2_with fail
  refine (has7_1 _ _ _ (H.out.keep ?_) ix_1).mono ?_
  · exact grew (by repeat (first | exact Grew.refl _ | refine Grew.alloc ?_ _))
  rintro e w1 ⟨rfl, rfl⟩
  go_wp2_with fail
  refine (has7_1 _ _ _ (H.out.keep ?_) ix_1).mono ?_
  · exact grew (by repeat (first | exact Grew.refl _ | refine Grew.alloc ?_ _))
  rintro e w1 ⟨rfl, rfl⟩
  go_wp2_with fail
  rw [rounds_succ]
  go_wp2_with fail
  refine (name9_2 _).mono ?_
  rintro e w1 ⟨rfl, rfl⟩
  go_wp2_with fail
  refine (has7_2 _ _ _ (H.out.keep ?_) ix_2).mono ?_
  · exact grew (by repeat (first | exact Grew.refl _ | refine Grew.alloc ?_ _))
  rintro e w1 ⟨rfl, rfl⟩
  go_wp2_with fail
  refine (has7_2 _ _ _ (H.out.keep ?_) ix_2).mono ?_
  · exact grew (by repeat (first | exact Grew.refl _ | refine Grew.alloc ?_ _))
  rintro e w1 ⟨rfl, rfl⟩
  go_wp2_with fail
  rw [rounds_succ]
  go_wp2_with fail
  refine (name9_3 _).mono ?_
  rintro e w1 ⟨rfl, rfl⟩
  go_wp2_with fail
  refine (has7_3 _ _ _ (H.out.keep ?_) ix_3).mono ?_
  · exact grew (by repeat (first | exact Grew.refl _ | refine Grew.alloc ?_ _))
  rintro e w1 ⟨rfl, rfl⟩
  go_wp2_with fail
  refine (has7_3 _ _ _ (H.out.keep ?_) ix_3).mono ?_
  · exact grew (by repeat (first | exact Grew.refl _ | refine Grew.alloc ?_ _))
  rintro e w1 ⟨rfl, rfl⟩
  go_wp2_with fail
  rw [rounds_succ]
  go_wp2
  go_ret
  exact ⟨rfl, grew (by repeat (first | exact Grew.refl _ | refine Grew.alloc ?_ _))⟩

theorem dec_out (b : Int) (w : World) (h : 15 < b) : Calls Tryd.prog 4 #[.int .u8 b] w fun e w' => e = .returned (.bool true) ∧ Below w.heap.size w w' := by
  go_enter Tryd.func4, Tryd.ntmps4
  go_wp2
  go_ret
  exact ⟨rfl, Below.refl _ _⟩

theorem dec_all (b : Int) (w : World) (hl : Listed w) (h0 : 0 ≤ b) : Calls Tryd.prog 4 #[.int .u8 b] w fun e w' => e = .returned (.bool true) ∧ Below w.heap.size w w' := by
  by_cases h : 15 < b
  · exact dec_out b w h
  · have hc : b = 0 ∨ b = 1 ∨ b = 2 ∨ b = 3 ∨ b = 4 ∨ b = 5 ∨ b = 6 ∨ b = 7 ∨ b = 8 ∨ b = 9 ∨ b = 10 ∨ b = 11 ∨ b = 12 ∨ b = 13 ∨ b = 14 ∨ b = 15 := by omega
    rcases hc with rfl | rfl | rfl | rfl | rfl | rfl | rfl | rfl | rfl | rfl | rfl | rfl | rfl | rfl | rfl | rfl
    · exact dec_0 w hl
    · exact dec_1 w hl
    · exact dec_2 w hl
    · exact dec_3 w hl
    · exact dec_4 w hl
    · exact dec_5 w hl
    · exact dec_6 w hl
    · exact dec_7 w hl
    · exact dec_8 w hl
    · exact dec_9 w hl
    · exact dec_10 w hl
    · exact dec_11 w hl
    · exact dec_12 w hl
    · exact dec_13 w hl
    · exact dec_14 w hl
    · exact dec_15 w hl

end Go.Proofs.Qxb6627814aDoor
