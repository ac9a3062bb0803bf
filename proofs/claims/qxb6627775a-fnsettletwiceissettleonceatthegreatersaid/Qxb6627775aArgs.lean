/-
  FROM THE ARGUMENTS AS THE ROW OPENS THEM TO THE RUNS THAT THE WALKS SPEAK OF.
-/
import Derived.Test.Qxb6627775aLaw
namespace Go.Proofs.Qxb6627775a
open Go.RowKit

/-- WHAT THE WALK IS TOLD OF A SLICE OF INTEGERS THAT CAME IN: it is nil; or it leads to a row of 'cap' cells, the numbers 'zs' (the first 'len' are its elements, the rest its spare room), each fitting its kind. -/
def IsRow (k : IntKind) (w : World) (a : Option Addr) (len cap : Nat) (zs : List Int) : Prop :=
  (a = none ∧ len = 0 ∧ cap = 0 ∧ zs = []) ∨
  ∃ x, a = some x ∧ len ≤ cap ∧ cap ≤ maxLen ∧ zs.length = cap ∧ (∀ i, i < zs.length → w.cell? (x.add i) = some (.int k (zs.getD i 0))) ∧ ∀ n ∈ zs, (Lit.int k n).wf = true

/-- The runs: pair k of the two slices. -/
def runsOf (z1 z2 : List Int) (m : Nat) : List (Int × Int) := (List.range m).map fun k => (z1.getD k 0, z2.getD k 0)
theorem runsOf_length (z1 z2 : List Int) (m : Nat) : (runsOf z1 z2 m).length = m := by simp [runsOf]
theorem runsOf_getD (z1 z2 : List Int) (m k : Nat) (h : k < m) : (runsOf z1 z2 m).getD k (0, 0) = (z1.getD k 0, z2.getD k 0) := by
  simp [runsOf, List.getD, h]

theorem IsRow.len_le {k : IntKind} {w : World} {a : Option Addr} {len cap : Nat} {zs : List Int} (h : IsRow k w a len cap zs) : len ≤ maxLen := by
  rcases h with ⟨_, rfl, _⟩ | ⟨_, _, h1, h2, _⟩
  · exact Nat.zero_le _
  · exact Nat.le_trans h1 h2

theorem addp (b o k : Nat) : (⟨b, o, none⟩ : Addr).add k = ⟨b, o + k, none⟩ := by simp [Addr.add]

/-- The cells of a slice that is not empty. -/
theorem IsRow.cells {w : World} {a : Option Addr} {len cap : Nat} {zs : List Int} (h : IsRow .u64 w a len cap zs) (hp : 0 < len) :
    ∃ b o, a = some ⟨b, o, none⟩ ∧ b < w.heap.size ∧ ∀ k, k < len → w.cell? ⟨b, o + k, none⟩ = some (.int .u64 (zs.getD k 0)) := by
  rcases h with ⟨_, rfl, _⟩ | ⟨⟨b, off, spot⟩, rfl, h1, h2, hz, hc, _⟩
  · omega
  · have h0 := hc 0 (by omega)
    have hspot : spot = none := by simpa [Addr.add] using World.cell?_spot h0
    subst hspot
    refine ⟨b, off, rfl, ?_, fun k hk => ?_⟩
    · have := World.block_lt_of_cell? w _ h0
      rw [addp] at this
      exact this
    · have := hc k (by omega)
      rw [addp] at this
      exact this

theorem firsts_of {w : World} {a : Option Addr} {len cap : Nat} {z1 z2 : List Int} (h : IsRow .u64 w a len cap z1) : Firsts w a (runsOf z1 z2 len) := by
  rcases Nat.eq_zero_or_pos len with rfl | hp
  · exact .inl rfl
  · obtain ⟨b, o, e, hb, hc⟩ := h.cells hp
    refine .inr ⟨b, o, e, hb, fun k hk => ?_⟩
    rw [runsOf_length] at hk
    rw [runsOf_getD _ _ _ _ hk]
    exact hc k hk
theorem lasts_of {w : World} {a : Option Addr} {len cap : Nat} {z1 z2 : List Int} (h : IsRow .u64 w a len cap z2) : Lasts w a (runsOf z1 z2 len) := by
  rcases Nat.eq_zero_or_pos len with rfl | hp
  · exact .inl rfl
  · obtain ⟨b, o, e, hb, hc⟩ := h.cells hp
    refine .inr ⟨b, o, e, hb, fun k hk => ?_⟩
    rw [runsOf_length] at hk
    rw [runsOf_getD _ _ _ _ hk]
    exact hc k hk

end Go.Proofs.Qxb6627775a
