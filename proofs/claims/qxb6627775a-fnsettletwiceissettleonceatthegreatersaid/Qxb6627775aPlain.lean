/-
  THE PLAIN SIDE: no Go in sight. Runs of numbers as pairs (first, last); what Settle does to them.
-/
import Derived.WalkKit
namespace Go.Proofs.Qxb6627775a
open Go.RowKit

/-- Settle at seq, of the runs. -/
def settleR (seq : Int) : List (Int × Int) → List (Int × Int)
  | [] => []
  | (f, l) :: t => if l < seq then settleR seq t else if f < seq then (seq, l) :: t else (f, l) :: t

/-- How many numbers a run holds, as Go reckons it on uint64. -/
def cntU (f l : Int) : Int := IntKind.u64.wrap (IntKind.u64.wrap (l - f) + 1)

/-- Settle at seq, of the count. -/
def settleN (seq : Int) (n : Int) : List (Int × Int) → Int
  | [] => n
  | (f, l) :: t => if l < seq then settleN seq (wrap64 (n - wrap64 (cntU f l))) t else if f < seq then wrap64 (n - wrap64 (IntKind.u64.wrap (seq - f))) else n

theorem settleR_cons_lt {seq f l : Int} {t : List (Int × Int)} (h : l < seq) : settleR seq ((f, l) :: t) = settleR seq t := by simp [settleR, h]
theorem settleN_cons_lt {seq n f l : Int} {t : List (Int × Int)} (h : l < seq) : settleN seq n ((f, l) :: t) = settleN seq (wrap64 (n - wrap64 (IntKind.u64.wrap (IntKind.u64.wrap (l - f) + 1)))) t := by simp [settleN, h, cntU]
theorem settleR_cons_cut {seq f l : Int} {t : List (Int × Int)} (h : ¬ l < seq) (hf : f < seq) : settleR seq ((f, l) :: t) = (seq, l) :: t := by simp [settleR, h, hf]
theorem settleN_cons_cut {seq n f l : Int} {t : List (Int × Int)} (h : ¬ l < seq) (hf : f < seq) : settleN seq n ((f, l) :: t) = wrap64 (n - wrap64 (IntKind.u64.wrap (seq - f))) := by simp [settleN, h, hf]
theorem settleR_cons_all {seq f l : Int} {t : List (Int × Int)} (h : ¬ l < seq) (hf : ¬ f < seq) : settleR seq ((f, l) :: t) = (f, l) :: t := by simp [settleR, h, hf]
theorem settleN_cons_all {seq n f l : Int} {t : List (Int × Int)} (h : ¬ l < seq) (hf : ¬ f < seq) : settleN seq n ((f, l) :: t) = n := by simp [settleN, h, hf]

theorem drop_at {rs : List (Int × Int)} {k : Nat} (h : k < rs.length) : rs.drop k = ((rs.getD k (0, 0)).1, (rs.getD k (0, 0)).2) :: rs.drop (k + 1) := by
  rw [List.drop_eq_getElem_cons h, List.getD_eq_getElem?_getD, List.getElem?_eq_getElem h]
  rfl

/-- The sum of the runs' counts, as Go reckons it on uint64. -/
def sumU (rs : List (Int × Int)) : Int := rs.foldl (fun s r => IntKind.u64.wrap (s + cntU r.1 r.2)) 0

theorem sumU_snoc (rs : List (Int × Int)) (f l : Int) : sumU (rs ++ [(f, l)]) = IntKind.u64.wrap (sumU rs + IntKind.u64.wrap (IntKind.u64.wrap (l - f) + 1)) := by
  simp [sumU, List.foldl_append, cntU]

/-- The first k runs stand in order, from st on. -/
def GoodTo (st : Int) (rs : List (Int × Int)) (k : Nat) : Prop :=
  ∀ j, j < k → (rs.getD j (0, 0)).1 ≤ (rs.getD j (0, 0)).2 ∧ (j = 0 → st ≤ (rs.getD j (0, 0)).1) ∧ (∀ i, j = i + 1 → (rs.getD i (0, 0)).2 < (rs.getD j (0, 0)).1)

theorem GoodTo.zero {st : Int} {rs : List (Int × Int)} : GoodTo st rs 0 := fun j h => absurd h (by omega)
theorem GoodTo.one {st f l : Int} {rs : List (Int × Int)} (hx : rs.getD 0 (0, 0) = (f, l)) (h1 : f ≤ l) (h2 : st ≤ f) : GoodTo st rs 1 := by
  intro j hj
  obtain rfl : j = 0 := by omega
  rw [hx]
  exact ⟨h1, fun _ => h2, fun i hi => absurd hi (by omega)⟩
theorem GoodTo.step {st f l pf pl : Int} {rs : List (Int × Int)} {k : Nat} (h : GoodTo st rs (k + 1)) (hx : rs.getD (k + 1) (0, 0) = (f, l)) (hp : rs.getD k (0, 0) = (pf, pl)) (h1 : f ≤ l) (h2 : pl < f) : GoodTo st rs (k + 2) := by
  intro j hj
  by_cases e : j < k + 1
  · exact h j e
  · obtain rfl : j = k + 1 := by omega
    rw [hx]
    refine ⟨h1, fun h0 => absurd h0 (by omega), fun i hi => ?_⟩
    obtain rfl : i = k := by omega
    rw [hp]
    exact h2

/-- The documented shape, as far as the laws want it. -/
def Good (st n : Int) (rs : List (Int × Int)) : Prop := GoodTo st rs rs.length ∧ n = wrap64 (sumU rs)

end Go.Proofs.Qxb6627775a
