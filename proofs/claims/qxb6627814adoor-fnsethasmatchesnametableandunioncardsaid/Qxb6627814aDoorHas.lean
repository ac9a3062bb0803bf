/-
  THE WALKS OF slices.Index, bit, Has, zzPermIndex AND zzPermName: what each answers for a text p.
-/
import Derived.Test.Qxb6627814aDoorRows
import Derived.WalkKit
import Derived.WalkSpells
import Derived.WalkLawsBesides
namespace Go.Proofs.Qxb6627814aDoor
open Go.RowKit

/-- The place of a name in the listing; -1 where it names none. -/
def ix (p : ByteArray) : Int :=
  if (p.toList == [82, 69, 80, 79, 82, 84, 95, 67, 79, 78, 84, 69, 78, 84]) = true then 0
  else if (p.toList == [68, 69, 76, 69, 84, 69, 95, 79, 87, 78, 95, 82, 69, 80, 79, 82, 84, 83]) = true then 1
  else if (p.toList == [77, 65, 78, 65, 71, 69, 95, 82, 69, 80, 79, 82, 84, 83]) = true then 2
  else if (p.toList == [77, 65, 78, 65, 71, 69, 95, 82, 69, 65, 83, 79, 78, 83]) = true then 3
  else -1

theorem ix_cases (p : ByteArray) : ix p = -1 ∨ ix p = 0 ∨ ix p = 1 ∨ ix p = 2 ∨ ix p = 3 := by
  unfold ix
  repeat' split
  all_goals simp

theorem ret_int {k : IntKind} {a b : Int} (h : a = b) : Ending.returned (.int k a) = .returned (.int k b) := by rw [h]

/-- The listing in memory. -/
structure Listed (w : World) : Prop where
  c0 : w.cell? ⟨0, 0, none⟩ = some (.string ⟨#[82, 69, 80, 79, 82, 84, 95, 67, 79, 78, 84, 69, 78, 84]⟩)
  c1 : w.cell? ⟨0, 1, none⟩ = some (.string ⟨#[68, 69, 76, 69, 84, 69, 95, 79, 87, 78, 95, 82, 69, 80, 79, 82, 84, 83]⟩)
  c2 : w.cell? ⟨0, 2, none⟩ = some (.string ⟨#[77, 65, 78, 65, 71, 69, 95, 82, 69, 80, 79, 82, 84, 83]⟩)
  c3 : w.cell? ⟨0, 3, none⟩ = some (.string ⟨#[77, 65, 78, 65, 71, 69, 95, 82, 69, 65, 83, 79, 78, 83]⟩)

theorem Listed.keep {w w' : World} (h : Listed w) (hb : Below w.heap.size w w') : Listed w' :=
  ⟨(hb.cell (World.block_lt_of_cell? w _ h.c0)).trans h.c0, (hb.cell (World.block_lt_of_cell? w _ h.c1)).trans h.c1, (hb.cell (World.block_lt_of_cell? w _ h.c2)).trans h.c2, (hb.cell (World.block_lt_of_cell? w _ h.c3)).trans h.c3⟩

set_option maxHeartbeats 400000 in
theorem index11 (p : ByteArray) (w : World) (h : Listed w) :
    Calls Tryd.prog 11 #[.slice (some ⟨0, 0, none⟩) 4 4, .string p] w fun e w' => e = .returned (.int .i64 (ix p)) ∧ w' = w := by
  obtain ⟨h0, h1, h2, h3⟩ := h
  have e0 : ∀ b : Bool, b = true ∨ b = false := fun b => by cases b <;> simp
  rcases e0 (p.toList == [82, 69, 80, 79, 82, 84, 95, 67, 79, 78, 84, 69, 78, 84]) with t0 | t0
  · have HI : Hid (ix p = 0) := by show ix p = 0; simp [ix, t0]
    clear e0
    go_enter Tryd.func11, Tryd.ntmps11
    go_wp2
    refine wp_loop_rounds 1 ?_
    rw [rounds_succ]
    go_wp2
    go_ret
    exact ⟨ret_int HI.out.symm, rfl⟩
  rcases e0 (p.toList == [68, 69, 76, 69, 84, 69, 95, 79, 87, 78, 95, 82, 69, 80, 79, 82, 84, 83]) with t1 | t1
  · have HI : Hid (ix p = 1) := by show ix p = 1; simp [ix, t0, t1]
    clear e0
    go_enter Tryd.func11, Tryd.ntmps11
    go_wp2
    refine wp_loop_rounds 2 ?_
    rw [rounds_succ]
    go_wp2
    rw [rounds_succ]
    go_wp2
    go_ret
    exact ⟨ret_int HI.out.symm, rfl⟩
  rcases e0 (p.toList == [77, 65, 78, 65, 71, 69, 95, 82, 69, 80, 79, 82, 84, 83]) with t2 | t2
  · have HI : Hid (ix p = 2) := by show ix p = 2; simp [ix, t0, t1, t2]
    clear e0
    go_enter Tryd.func11, Tryd.ntmps11
    go_wp2
    refine wp_loop_rounds 3 ?_
    rw [rounds_succ]
    go_wp2
    rw [rounds_succ]
    go_wp2
    rw [rounds_succ]
    go_wp2
    go_ret
    exact ⟨ret_int HI.out.symm, rfl⟩
  rcases e0 (p.toList == [77, 65, 78, 65, 71, 69, 95, 82, 69, 65, 83, 79, 78, 83]) with t3 | t3
  · have HI : Hid (ix p = 3) := by show ix p = 3; simp [ix, t0, t1, t2, t3]
    clear e0
    go_enter Tryd.func11, Tryd.ntmps11
    go_wp2
    refine wp_loop_rounds 4 ?_
    rw [rounds_succ]
    go_wp2
    rw [rounds_succ]
    go_wp2
    rw [rounds_succ]
    go_wp2
    rw [rounds_succ]
    go_wp2
    go_ret
    exact ⟨ret_int HI.out.symm, rfl⟩
  · have HI : Hid (ix p = -1) := by show ix p = -1; simp [ix, t0, t1, t2, t3]
    clear e0
    go_enter Tryd.func11, Tryd.ntmps11
    go_wp2
    refine wp_loop_rounds 5 ?_
    rw [rounds_succ]
    go_wp2
    rw [rounds_succ]
    go_wp2
    rw [rounds_succ]
    go_wp2
    rw [rounds_succ]
    go_wp2
    rw [rounds_succ]
    go_wp2
    go_ret
    exact ⟨ret_int HI.out.symm, rfl⟩

set_option maxHeartbeats 400000 in
theorem perm8 (p : ByteArray) (w : World) :
    Calls Tryd.prog 8 #[.string p] w fun e w' => e = .returned (.int .i64 (ix p)) ∧ w' = w := by
  go_enter Tryd.func8, Tryd.ntmps8
  go_wp2
  all_goals
    go_ret
    exact ⟨ret_int (by simp [ix, *]), rfl⟩

theorem bit10_no (p : ByteArray) (w : World) (h : Listed w) (hj : ix p = -1) :
    Calls Tryd.prog 10 #[.string p] w fun e w' => e = .returned (.tuple #[.int .u8 0, .bool false]) ∧ w' = w := by
  have H : Hid (Listed w) := h
  obtain ⟨h0, h1, h2, h3⟩ := h
  go_enter Tryd.func10, Tryd.ntmps10
  go_wp2_with fail
  refine (index11 p _ H.out).mono ?_
  rintro e w ⟨rfl, rfl⟩
  rw [hj]
  go_wp2
  go_ret2
  exact ⟨rfl, rfl⟩

theorem bit10_0 (p : ByteArray) (w : World) (h : Listed w) (hj : ix p = 0) :
    Calls Tryd.prog 10 #[.string p] w fun e w' => e = .returned (.tuple #[.int .u8 1, .bool true]) ∧ w' = w := by
  have H : Hid (Listed w) := h
  obtain ⟨h0, h1, h2, h3⟩ := h
  go_enter Tryd.func10, Tryd.ntmps10
  go_wp2_with fail
  refine (index11 p _ H.out).mono ?_
  rintro e w ⟨rfl, rfl⟩
  rw [hj]
  go_wp2
  go_ret2
  exact ⟨rfl, rfl⟩

theorem bit10_1 (p : ByteArray) (w : World) (h : Listed w) (hj : ix p = 1) :
    Calls Tryd.prog 10 #[.string p] w fun e w' => e = .returned (.tuple #[.int .u8 2, .bool true]) ∧ w' = w := by
  have H : Hid (Listed w) := h
  obtain ⟨h0, h1, h2, h3⟩ := h
  go_enter Tryd.func10, Tryd.ntmps10
  go_wp2_with fail
  refine (index11 p _ H.out).mono ?_
  rintro e w ⟨rfl, rfl⟩
  rw [hj]
  go_wp2
  go_ret2
  exact ⟨rfl, rfl⟩

theorem bit10_2 (p : ByteArray) (w : World) (h : Listed w) (hj : ix p = 2) :
    Calls Tryd.prog 10 #[.string p] w fun e w' => e = .returned (.tuple #[.int .u8 4, .bool true]) ∧ w' = w := by
  have H : Hid (Listed w) := h
  obtain ⟨h0, h1, h2, h3⟩ := h
  go_enter Tryd.func10, Tryd.ntmps10
  go_wp2_with fail
  refine (index11 p _ H.out).mono ?_
  rintro e w ⟨rfl, rfl⟩
  rw [hj]
  go_wp2
  go_ret2
  exact ⟨rfl, rfl⟩

theorem bit10_3 (p : ByteArray) (w : World) (h : Listed w) (hj : ix p = 3) :
    Calls Tryd.prog 10 #[.string p] w fun e w' => e = .returned (.tuple #[.int .u8 8, .bool true]) ∧ w' = w := by
  have H : Hid (Listed w) := h
  obtain ⟨h0, h1, h2, h3⟩ := h
  go_enter Tryd.func10, Tryd.ntmps10
  go_wp2_with fail
  refine (index11 p _ H.out).mono ?_
  rintro e w ⟨rfl, rfl⟩
  rw [hj]
  go_wp2
  go_ret2
  exact ⟨rfl, rfl⟩

/-- Does b hold the bit v? -/
def hasB (b v : Int) : Bool := bits BinOp.and IntKind.u8 b v != 0

theorem has7_no (p : ByteArray) (b : Int) (w : World) (h : Listed w) (hj : ix p = -1) :
    Calls Tryd.prog 7 #[.agg #[.int .u8 b], .string p] w fun e w' => e = .returned (.bool false) ∧ w' = w.alloc (.cells #[.int .u8 b] 24) := by
  have H : Hid (Listed (w.alloc (.cells #[.int .u8 b] 24))) := h.keep ((Below.refl _ _).alloc (Nat.le_refl _) _)
  clear h
  go_enter Tryd.func7, Tryd.ntmps7
  go_wp2_with fail
  refine (bit10_no p _ H.out hj).mono ?_
  rintro e w' ⟨rfl, hw⟩
  rw [hw]
  go_wp2
  go_ret
  exact ⟨rfl, rfl⟩

theorem has7_0 (p : ByteArray) (b : Int) (w : World) (h : Listed w) (hj : ix p = 0) :
    Calls Tryd.prog 7 #[.agg #[.int .u8 b], .string p] w fun e w' => e = .returned (.bool (hasB b 1)) ∧ w' = w.alloc (.cells #[.int .u8 b] 24) := by
  have H : Hid (Listed (w.alloc (.cells #[.int .u8 b] 24))) := h.keep ((Below.refl _ _).alloc (Nat.le_refl _) _)
  clear h
  go_enter Tryd.func7, Tryd.ntmps7
  go_wp2_with fail
  refine (bit10_0 p _ H.out hj).mono ?_
  rintro e w' ⟨rfl, hw⟩
  rw [hw]
  go_wp2
  go_ret
  exact ⟨rfl, rfl⟩

theorem has7_1 (p : ByteArray) (b : Int) (w : World) (h : Listed w) (hj : ix p = 1) :
    Calls Tryd.prog 7 #[.agg #[.int .u8 b], .string p] w fun e w' => e = .returned (.bool (hasB b 2)) ∧ w' = w.alloc (.cells #[.int .u8 b] 24) := by
  have H : Hid (Listed (w.alloc (.cells #[.int .u8 b] 24))) := h.keep ((Below.refl _ _).alloc (Nat.le_refl _) _)
  clear h
  go_enter Tryd.func7, Tryd.ntmps7
  go_wp2_with fail
  refine (bit10_1 p _ H.out hj).mono ?_
  rintro e w' ⟨rfl, hw⟩
  rw [hw]
  go_wp2
  go_ret
  exact ⟨rfl, rfl⟩

theorem has7_2 (p : ByteArray) (b : Int) (w : World) (h : Listed w) (hj : ix p = 2) :
    Calls Tryd.prog 7 #[.agg #[.int .u8 b], .string p] w fun e w' => e = .returned (.bool (hasB b 4)) ∧ w' = w.alloc (.cells #[.int .u8 b] 24) := by
  have H : Hid (Listed (w.alloc (.cells #[.int .u8 b] 24))) := h.keep ((Below.refl _ _).alloc (Nat.le_refl _) _)
  clear h
  go_enter Tryd.func7, Tryd.ntmps7
  go_wp2_with fail
  refine (bit10_2 p _ H.out hj).mono ?_
  rintro e w' ⟨rfl, hw⟩
  rw [hw]
  go_wp2
  go_ret
  exact ⟨rfl, rfl⟩

theorem has7_3 (p : ByteArray) (b : Int) (w : World) (h : Listed w) (hj : ix p = 3) :
    Calls Tryd.prog 7 #[.agg #[.int .u8 b], .string p] w fun e w' => e = .returned (.bool (hasB b 8)) ∧ w' = w.alloc (.cells #[.int .u8 b] 24) := by
  have H : Hid (Listed (w.alloc (.cells #[.int .u8 b] 24))) := h.keep ((Below.refl _ _).alloc (Nat.le_refl _) _)
  clear h
  go_enter Tryd.func7, Tryd.ntmps7
  go_wp2_with fail
  refine (bit10_3 p _ H.out hj).mono ?_
  rintro e w' ⟨rfl, hw⟩
  rw [hw]
  go_wp2
  go_ret
  exact ⟨rfl, rfl⟩

end Go.Proofs.Qxb6627814aDoor
