/-
  WHAT THE LISTED VARIABLE GIVES: its four cells; and that it reads again as it read, where only new blocks have come.
-/
import Derived.Test.Qxb6627814aDoorHas
import Derived.ProofKit
import Derived.LaidMore
import Derived.OpenShut
import Derived.ShutString
import Derived.Stop.Joined
namespace Go.Proofs.Qxb6627814aDoor
open Go.ChangeShapes Go.WideShapes Go.ChangeAt Go.RowKit

theorem own : ownKnob Tryd.prog.godebug = none := by kernel_rfl
theorem laidOut : laidOutB Tryd.prog = true := by kernel_rfl
/-- The variable's name is the row's own. -/
def vn : String := (Rows.fnSetHasDecodesBitsAndComplementSpec.vars).headD default
theorem vn_match : Rows.fnSetHasMatchesNameTableAndUnionSpec.vars = [vn] := rfl
theorem vn_dec : Rows.fnSetHasDecodesBitsAndComplementSpec.vars = [vn] := rfl
theorem gOrder : Tryd.prog.globalNamed vn = some 0 := by kernel_rfl
theorem tOrder : (Tryd.prog.globals[0]?).map (·.type) = some 36 := by kernel_rfl
theorem cells36 : Tryd.prog.cellsOf 36 = 4 := by kernel_rfl
theorem cells26 : Tryd.prog.cellsOf 26 = 1 := by kernel_rfl

def laid1 : List (String × DataW Unit) := [(vn, Rows.laid_example_com_melding_melding_internal_permission_order)]
theorem laid_match : Rows.fnSetHasMatchesNameTableAndUnionRow.laid = laid1 := rfl
theorem laid_dec : Rows.fnSetHasDecodesBitsAndComplementRow.laid = laid1 := rfl

theorem door_met (os : Os) (args : Array Value) : laidMetH Tryd.prog laid1 ((World.doorLaid Tryd.prog 400 os).forCall (fun _ _ => 0) ⟨#[], args, []⟩).memory :=
  laidMetH_of_parts3 (fuel := 8) (laidMet_of_run' 8 (by kernel_rfl) (by kernel_rfl)) (by kernel_rfl) (by kernel_rfl)

def cells4 : Array Value := #[.string ⟨#[82, 69, 80, 79, 82, 84, 95, 67, 79, 78, 84, 69, 78, 84]⟩, .string ⟨#[68, 69, 76, 69, 84, 69, 95, 79, 87, 78, 95, 82, 69, 80, 79, 82, 84, 83]⟩, .string ⟨#[77, 65, 78, 65, 71, 69, 95, 82, 69, 80, 79, 82, 84, 83]⟩, .string ⟨#[77, 65, 78, 65, 71, 69, 95, 82, 69, 65, 83, 79, 78, 83]⟩]

/-- A cell that reads as a string is one. -/
theorem str_of_trod {H : Type} {enc : TypeId × Value → H} {P : Program} {w : World} {base : Nat} {sp : Nat → Bool} {held : Bool} {fuel : Nat} {t : TypeId} {c : Value} {y : DataW H × List MemPlace}
    (ht : P.underlying t = some .string) (h : DataW.trod enc P w base sp held fuel t [c] = some y) : ∃ s : ByteArray, c = .string s ∧ y = (.lit (.string s.data.toList), []) := by
  cases fuel with
  | zero => simp [DataW.trod] at h
  | succ fuel =>
    cases c <;> simp [DataW.trod, ht] at h
    rename_i s
    exact ⟨s, rfl, by simp [h]⟩

theorem ba_ext (s : ByteArray) (a : Array UInt8) (h : s.data.toList = a.toList) : s = ⟨a⟩ := by
  cases s with
  | mk d => congr 1; exact Array.toList_inj.1 h

theorem cells_of_laid {W : World} (h : laidMetH Tryd.prog laid1 W) : W.var? Tryd.prog vn = some cells4 := by
  rw [MakeChecks.laidMetH_plain _ _ _ (by kernel_rfl)] at h
  obtain ⟨ps, ⟨g, t, cs, fuel, p, q, hg, ht, hvar, hd, _, _⟩, _⟩ := h
  obtain rfl := Option.some.inj (gOrder.symm.trans hg)
  obtain rfl := Option.some.inj (tOrder.symm.trans ht)
  rw [hvar]
  congr 1
  obtain ⟨l⟩ := cs
  cases fuel with
  | zero => simp [DataW.trod] at hd
  | succ fuel =>
    simp only [DataW.trod, Tryd.underlying36, cells36, cells26] at hd
    split at hd
    · rename_i hl
      obtain ⟨c0, c1, c2, c3, rfl⟩ : ∃ c0 c1 c2 c3, l = [c0, c1, c2, c3] := by
        match l, hl with
        | [a, b, c, d], _ => exact ⟨a, b, c, d, rfl⟩
      have e : List.range 4 = [0, 1, 2, 3] := rfl
      rw [e] at hd
      simp only [Option.map_eq_some_iff, List.mapM_cons, List.mapM_nil, Option.bind_eq_bind, Option.bind_eq_some_iff, Option.pure_def, Option.some.injEq] at hd
      obtain ⟨xs, ⟨y0, h0, _, ⟨y1, h1, _, ⟨y2, h2, _, ⟨y3, h3, _, rfl, rfl⟩, rfl⟩, rfl⟩, rfl⟩, hx⟩ := hd
      obtain ⟨n0, rfl, rfl⟩ := str_of_trod Tryd.underlying26 h0
      obtain ⟨n1, rfl, rfl⟩ := str_of_trod Tryd.underlying26 h1
      obtain ⟨n2, rfl, rfl⟩ := str_of_trod Tryd.underlying26 h2
      obtain ⟨n3, rfl, rfl⟩ := str_of_trod Tryd.underlying26 h3
      simp [Rows.laid_example_com_melding_melding_internal_permission_order] at hx
      obtain ⟨⟨e0, e1, e2, e3⟩, _⟩ := hx
      rw [ba_ext n0 _ e0, ba_ext n1 _ e1, ba_ext n2 _ e2, ba_ext n3 _ e3]
      rfl
    · cases hd

theorem listed_of {W : World} (hvar : W.var? Tryd.prog vn = some cells4) : Listed W :=
  ⟨World.var?_cell gOrder hvar 0, World.var?_cell gOrder hvar 1, World.var?_cell gOrder hvar 2, World.var?_cell gOrder hvar 3⟩

abbrev tableH {H : Type} : DataW H := Rows.laid_example_com_melding_melding_internal_permission_order

theorem reads_table {H : Type} (enc : TypeId × Value → H) (W : World) (sp : Nat → Bool) : DataW.trod enc Tryd.prog W 0 sp true 3 36 cells4.toList = some (tableH, []) := by kernel_rfl

theorem vars_again {H : Type} (enc : TypeId × Value → H) {W W' : World} (hb : Below W.heap.size W W') (h0 : 0 < W.heap.size) (hvar : W.var? Tryd.prog vn = some cells4) (sp : Nat → Bool) :
    DataW.TrodVars enc Tryd.prog W' sp [vn] [tableH] (MemPlace.row ⟨0, 0, none⟩ cells4.size ++ [] ++ []) :=
  ⟨0, 36, cells4, 3, [], [], gOrder, tOrder, var?_below hb gOrder h0 hvar, reads_table enc W' sp, rfl, rfl⟩

/-- The named variable, as the row hands it over. -/
theorem vars_open {H : Type} {enc : TypeId × Value → H} {W : World} {gs : List (DataW H)} {q : List MemPlace} (hL : laidMetH Tryd.prog laid1 W) (hV : DataW.TrodVars enc Tryd.prog W (fun _ => true) [vn] gs q) :
    gs = [tableH] ∧ W.var? Tryd.prog vn = some cells4 ∧ 0 < W.heap.size := by
  have hc := cells_of_laid hL
  obtain ⟨g, t, cs, fuel, d, p', rfl, hg, ht, hvar, hd, rfl⟩ := trodVars_one hV
  obtain rfl := Option.some.inj (gOrder.symm.trans hg)
  obtain rfl := Option.some.inj (tOrder.symm.trans ht)
  obtain rfl : cs = cells4 := Option.some.inj (hvar.symm.trans hc)
  obtain ⟨rfl, rfl⟩ := DataW.Trod.unique (v := .agg cells4) ⟨fuel, hd⟩ ⟨3, reads_table enc W _⟩
  exact ⟨rfl, hc, World.block_lt_of_cell? W _ (listed_of hc).c0⟩

end Go.Proofs.Qxb6627814aDoor
