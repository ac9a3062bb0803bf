import Derived.Test.Qxb6627775aSettle
import Derived.Deep.RegionWith
namespace Go.Proofs.Qxb6627775a
open Go.RowKit

theorem info41 : (Try.prog.info? 41).map (fun i => (i.zero, i.size, i.bytes)) = some (some (.agg #[.int .u64 0, .int .u64 0]), 2, 16) := by kernel_rfl

set_option maxHeartbeats 400000 in
theorem append18 (b base k : Nat) (st n f l : Int) (v : Value) (xs : List Value) (w : World) (hb : w.heap[b]? = some (.cells #[.int .u64 st, v, .int .i64 n] 39 (0, 0))) (hbb : b < base) (hbase : base ≤ w.heap.size)
    (hown : w.ownsRow base 41 2 v k xs) (hk : k ≤ 65536) :
    Calls Try.prog 18 #[.pointer (some ⟨b, 0, none⟩), .int .u64 f, .int .u64 l] w fun e w' => e = .returned (.tuple #[]) ∧ ∃ v', w'.heap[b]? = some (.cells #[.int .u64 st, v', .int .i64 n] 39 (0, 0)) ∧ w'.ownsRow base 41 2 v' (k + 1) (xs ++ [.int .u64 f, .int .u64 l]) ∧ Below b w w' := by
  have hc1 : w.cell? ⟨b, 1, none⟩ = some v := by rw [cell_of_row w b 1 _ 39 (0, 0) hb]; rfl
  obtain ⟨i0, hi, hz0, hz1, hz2⟩ := info_parts info41
  go_enter Try.func18, Try.ntmps18
  go_wp2_with (first
      | (at_builtin; refine wpList_append_own _ rfl _ _ 37 rfl base 41 i0 (.agg #[.int .u64 0, .int .u64 0]) 2 16 Try.underlying37 hi hz0 hz1 hz2 rfl (by decide) _ _ _ rfl (hown.alloc _) ⟨w.heap.size, 0, none⟩ 1 1 [.int .u64 f, .int .u64 l] rfl rfl ?c1 ?c2 ?c3 ?c4 ?c5 ?_)
      | go_in)
  case c1 =>
    intro j u hj
    match j, hj with
    | 0, hj => simp at hj; subst hj; simp [Addr.add]
    | 1, hj => simp at hj; subst hj; simp [Addr.add]
  case c2 => intro u hu; simp at hu; rcases hu with rfl | rfl <;> rfl
  case c3 => unfold maxLen; omega
  case c4 => omega
  case c5 => simp; omega
  intro v' w1 hown' hgrow hnn
  have hex : ∃ g cap, v' = .slice (some ⟨g, 0, none⟩) (k + 1) cap := by
    rcases hown'.2 with ⟨h, _⟩ | ⟨g, cap, _, h, _⟩
    · exact absurd h hnn
    · exact ⟨g, cap, h⟩
  obtain ⟨g, cap, hv⟩ := hex
  have hrow : ∀ j, v.ownBlock = some j → base ≤ j := fun j hj => (hown.lt j hj).1
  have hbl : b < w.heap.size := by omega
  have hblk : w1.heap[b]? = some (.cells #[.int .u64 st, v, .int .i64 n] 39 (0, 0)) := by
    rw [hgrow.block b (by simp; omega) (fun e => by have := hrow b e.symm; omega), Below.heap_alloc _ _ _ hbl]; exact hb
  have hbel : Below b w w1 := ((Below.refl _ _).alloc (by omega) _).grown hgrow (by simp; omega) (fun j hj => by have := hrow j hj; omega)
  have hcc : w1.cell? ⟨b, 1, none⟩ = some v := by rw [cell_of_row w1 b 1 _ 39 (0, 0) hblk]; rfl
  have hcf : w1.frozen? ⟨b, 1, none⟩ = false := frozen_of_row w1 b 1 _ 39 hblk
  rw [hv]
  have HO : Hid (w1.ownsRow base 41 2 v' (k + 1) (xs ++ [Value.int IntKind.u64 f, Value.int IntKind.u64 l])) := hown'
  have HV : Hid (v' = .slice (some ⟨g, 0, none⟩) (k + 1) cap) := hv
  have HB : Hid (w1.heap[b]? = some (.cells #[.int .u64 st, v, .int .i64 n] 39 (0, 0))) := hblk
  clear hown' hown hgrow hnn hv hrow hb hc1 hi hz0 hz1 hz2 hblk
  go_wp2
  go_end0
  refine ⟨rfl, .slice (some ⟨g, 0, none⟩) (k + 1) cap, ?_, ?_, ?_⟩
  · rw [heap_setCell_same w1 b 1 _ 39 _ HB.out]; rfl
  · exact ownsRow_setCell_below (HV.out ▸ HO.out) hbb _
  · exact hbel.setCell (Nat.le_refl _) _


set_option maxHeartbeats 400000 in
theorem new17 (st n : Int) (w : World) :
    Calls Try.prog 17 #[.int .u64 st, .int .i64 n] w fun e w' => e = .returned (.pointer (some ⟨w.heap.size, 0, none⟩)) ∧ w' = w.alloc (.cells #[.int .u64 st, .slice none 0 0, .int .i64 n] 39) := by
  go_enter Try.func17, Try.ntmps17
  go_wp2
  go_ret
  exact ⟨rfl, rfl⟩

/-- The cells of runs, in a row. -/
def flat (rs : List (Int × Int)) : List Value := rs.flatMap fun r => [.int .u64 r.1, .int .u64 r.2]

theorem flat_length (rs : List (Int × Int)) : (flat rs).length = rs.length * 2 := by
  induction rs with
  | nil => rfl
  | cons a t ih => simp only [flat, List.flatMap_cons, List.length_append, List.length_cons, List.length_nil] at *; omega

theorem flat_append (rs ts : List (Int × Int)) : flat (rs ++ ts) = flat rs ++ flat ts := by simp [flat]

theorem flat_get (rs : List (Int × Int)) : ∀ j, j < rs.length → (flat rs)[j * 2]? = some (.int .u64 (rs.getD j (0, 0)).1) ∧ (flat rs)[j * 2 + 1]? = some (.int .u64 (rs.getD j (0, 0)).2) := by
  induction rs with
  | nil => intro j h; simp at h
  | cons a t ih =>
    intro j hj
    match j with
    | 0 => simp [flat]
    | j + 1 =>
      have := ih j (by simpa using hj)
      have e : (j + 1) * 2 = j * 2 + 2 := by omega
      rw [e]
      simpa [flat] using this

theorem take_snoc (rs : List (Int × Int)) (k : Nat) (h : k < rs.length) : rs.take (k + 1) = rs.take k ++ [((rs.getD k (0, 0)).1, (rs.getD k (0, 0)).2)] := by
  rw [List.take_succ_eq_append_getElem h, List.getD_eq_getElem?_getD, List.getElem?_eq_getElem h]
  rfl

/-- From what append leaves to 'Del'. -/
theorem del_of_own {w : World} {B b : Nat} {st n : Int} {v : Value} {rs : List (Int × Int)} (hb : w.heap[b]? = some (.cells #[.int .u64 st, v, .int .i64 n] 39 (0, 0))) (hB : B ≤ b)
    (hown : w.ownsRow (b + 1) 41 2 v rs.length (flat rs)) : Del w B b st n rs := by
  refine ⟨hB, v, hb, ?_⟩
  rcases hown.2 with ⟨rfl, h0⟩ | ⟨g, cap, cur, rfl, hg, hh, hcap, hm, hs, ht⟩
  · exact .inl ⟨rfl, List.eq_nil_of_length_eq_zero h0⟩
  · refine .inr ⟨g, 0, cap, cur, rfl, by omega, hh, ?_, hcap⟩
    intro j hj
    have hf := flat_get rs j hj
    rw [← ht, List.getElem?_take, if_pos (by omega), List.getElem?_take, if_pos (by omega)] at hf
    simpa using hf

set_option maxHeartbeats 1000000 in
theorem build7_pos (b1 o1 c1 b2 o2 c2 : Nat) (st n : Int) (rs : List (Int × Int)) (w : World) (hlen : rs.length ≤ 65536) (hb1 : b1 < w.heap.size) (hb2 : b2 < w.heap.size)
    (hc1 : ∀ k, k < rs.length → w.cell? ⟨b1, o1 + k, none⟩ = some (.int .u64 (rs.getD k (0, 0)).1)) (hc2 : ∀ k, k < rs.length → w.cell? ⟨b2, o2 + k, none⟩ = some (.int .u64 (rs.getD k (0, 0)).2)) :
    Calls Try.prog 7 #[.int .u64 st, .slice (some ⟨b1, o1, none⟩) rs.length c1, .slice (some ⟨b2, o2, none⟩) rs.length c2, .int .i64 n] w fun e w' =>
      e = .returned (.pointer (some ⟨w.heap.size, 0, none⟩)) ∧ Del w' w.heap.size w.heap.size st n rs ∧ Below w.heap.size w w' := by
  have HC1 : Hid (∀ k, k < rs.length → w.cell? ⟨b1, o1 + k, none⟩ = some (.int .u64 (rs.getD k (0, 0)).1)) := hc1
  have HC2 : Hid (∀ k, k < rs.length → w.cell? ⟨b2, o2 + k, none⟩ = some (.int .u64 (rs.getD k (0, 0)).2)) := hc2
  clear hc1 hc2
  go_enter Try.func7, Try.ntmps7
  go_wp2_with (go_at_call 17; refine (new17 _ _ _).mono ?_; rintro e w' ⟨rfl, rfl⟩)
  go_loopw [10] (fun i wr => ∃ k : Nat, k ≤ rs.length ∧ i = .int .i64 k ∧ w.heap.size + 1 ≤ wr.heap.size ∧ ∃ v, wr.heap[w.heap.size]? = some (.cells #[.int .u64 st, v, .int .i64 n] 39 (0, 0)) ∧ wr.ownsRow (w.heap.size + 1) 41 2 v k (flat (rs.take k)) ∧ Below w.heap.size w wr)
     (fun i _ => rs.length - (intOf i).toNat)
  case atStart => exact ⟨0, Nat.zero_le _, rfl, by simp, _, heap_alloc_new w _, World.ownsRow_nil _ _ _ _, (Below.refl _ _).alloc (Nat.le_refl _) _⟩
  case round =>
    obtain ⟨k, hk, rfl, hsz, v, hb, hown, hbel⟩ := hrel
    have HB : Hid (wr.heap[w.heap.size]? = some (.cells #[.int .u64 st, v, .int .i64 n] 39 (0, 0))) := hb
    have HO : Hid (wr.ownsRow (w.heap.size + 1) 41 2 v k (flat (rs.take k))) := hown
    have HL : Hid (Below w.heap.size w wr) := hbel
    clear hb hown hbel
    by_cases hlt : k < rs.length
    · obtain ⟨f, l, hx⟩ : ∃ f l : Int, rs.getD k (0, 0) = (f, l) := ⟨_, _, rfl⟩
      have g1 : wr.cell? ⟨b1, o1 + k, none⟩ = some (.int .u64 f) := by rw [HL.out.cell (by exact hb1), HC1.out k hlt, hx]
      have g2 : wr.cell? ⟨b2, o2 + k, none⟩ = some (.int .u64 l) := by rw [HL.out.cell (by exact hb2), HC2.out k hlt, hx]
      have HX : Hid (rs.getD k (0, 0) = (f, l)) := hx
      clear hx
      go_wp2
      have hd1 : wr.drew.heap[w.heap.size]? = some (.cells #[.int .u64 st, v, .int .i64 n] 39 (0, 0)) := HB.out
      have hd2 : wr.drew.ownsRow (w.heap.size + 1) 41 2 v k (flat (rs.take k)) := HO.out
      have hd3 : w.heap.size + 1 ≤ wr.drew.heap.size := hsz
      have hcall := append18 w.heap.size (w.heap.size + 1) k st n f l v (flat (rs.take k)) wr.drew hd1 (by omega) hd3 hd2 (by omega)
      have HK : Hid (Calls Try.prog 18 #[.pointer (some ⟨w.heap.size, 0, none⟩), .int .u64 f, .int .u64 l] wr.drew fun e w' => e = .returned (.tuple #[]) ∧ ∃ v', w'.heap[w.heap.size]? = some (.cells #[.int .u64 st, v', .int .i64 n] 39 (0, 0)) ∧ w'.ownsRow (w.heap.size + 1) 41 2 v' (k + 1) (flat (rs.take k) ++ [.int .u64 f, .int .u64 l]) ∧ Below w.heap.size wr.drew w') := hcall
      clear hd1 hd2 hd3 hcall
      go_region_with (go_at_call 18; refine HK.out.mono ?_; rintro e w' ⟨rfl, hrest⟩)
      all_goals
        have HR : Hid (∃ v', w'.heap[w.heap.size]? = some (.cells #[.int .u64 st, v', .int .i64 n] 39 (0, 0)) ∧ w'.ownsRow (w.heap.size + 1) 41 2 v' (k + 1) (flat (rs.take k) ++ [.int .u64 f, .int .u64 l]) ∧ Below w.heap.size wr.drew w') := hrest
        clear hrest
        go_wp2
        go_roundw
        case rel =>
          obtain ⟨v', hb', ho', hl'⟩ := HR.out
          refine ⟨k + 1, by omega, by go_num, ?_, v', hb', ?_, HL.out.drew.trans hl'⟩
          · have := hl'.size
            have e : wr.drew.heap.size = wr.heap.size := rfl
            omega
          · rw [take_snoc rs k hlt, flat_append, HX.out]
            exact ho'
        case measure => simp [intOf]; omega
    · go_wp2
      go_ret
      have e : rs.take k = rs := List.take_of_length_le (by omega)
      have HO' := HO.out
      rw [e, show k = rs.length by omega] at HO'
      exact ⟨rfl, del_of_own HB.out (Nat.le_refl _) HO', HL.out⟩

set_option maxHeartbeats 400000 in
theorem build7_nil (a1 a2 : Option Addr) (c1 c2 : Nat) (st n : Int) (w : World) :
    Calls Try.prog 7 #[.int .u64 st, .slice a1 0 c1, .slice a2 0 c2, .int .i64 n] w fun e w' =>
      e = .returned (.pointer (some ⟨w.heap.size, 0, none⟩)) ∧ Del w' w.heap.size w.heap.size st n [] ∧ Below w.heap.size w w' := by
  go_enter Try.func7, Try.ntmps7
  go_wp2_with (go_at_call 17; refine (new17 _ _ _).mono ?_; rintro e w' ⟨rfl, rfl⟩)
  refine wp_loop_rounds 1 ?_
  rw [rounds_succ]
  go_wp2
  go_ret
  exact ⟨rfl, ⟨Nat.le_refl _, _, heap_alloc_new w _, .inl ⟨rfl, rfl⟩⟩, (Below.refl _ _).alloc (Nat.le_refl _) _⟩

/-- The slice a holds the runs' first numbers. -/
def Firsts (w : World) (a : Option Addr) (rs : List (Int × Int)) : Prop :=
  rs = [] ∨ ∃ b o, a = some ⟨b, o, none⟩ ∧ b < w.heap.size ∧ ∀ k, k < rs.length → w.cell? ⟨b, o + k, none⟩ = some (.int .u64 (rs.getD k (0, 0)).1)
def Lasts (w : World) (a : Option Addr) (rs : List (Int × Int)) : Prop :=
  rs = [] ∨ ∃ b o, a = some ⟨b, o, none⟩ ∧ b < w.heap.size ∧ ∀ k, k < rs.length → w.cell? ⟨b, o + k, none⟩ = some (.int .u64 (rs.getD k (0, 0)).2)

theorem Firsts.keep {w w' : World} {a : Option Addr} {rs : List (Int × Int)} (h : Firsts w a rs) (hb : Below w.heap.size w w') : Firsts w' a rs := by
  rcases h with h | ⟨b, o, e, hlt, hc⟩
  · exact .inl h
  · exact .inr ⟨b, o, e, Nat.lt_of_lt_of_le hlt hb.size, fun k hk => by rw [hb.cell (by exact hlt)]; exact hc k hk⟩
theorem Lasts.keep {w w' : World} {a : Option Addr} {rs : List (Int × Int)} (h : Lasts w a rs) (hb : Below w.heap.size w w') : Lasts w' a rs := by
  rcases h with h | ⟨b, o, e, hlt, hc⟩
  · exact .inl h
  · exact .inr ⟨b, o, e, Nat.lt_of_lt_of_le hlt hb.size, fun k hk => by rw [hb.cell (by exact hlt)]; exact hc k hk⟩

theorem build7 (a1 a2 : Option Addr) (c1 c2 : Nat) (st n : Int) (rs : List (Int × Int)) (w : World) (hlen : rs.length ≤ 65536) (h1 : Firsts w a1 rs) (h2 : Lasts w a2 rs) :
    Calls Try.prog 7 #[.int .u64 st, .slice a1 rs.length c1, .slice a2 rs.length c2, .int .i64 n] w fun e w' =>
      e = .returned (.pointer (some ⟨w.heap.size, 0, none⟩)) ∧ Del w' w.heap.size w.heap.size st n rs ∧ Below w.heap.size w w' := by
  rcases h1 with rfl | ⟨b1, o1, rfl, hb1, hc1⟩
  · exact build7_nil a1 a2 c1 c2 st n w
  · rcases h2 with rfl | ⟨b2, o2, rfl, hb2, hc2⟩
    · exact build7_nil _ a2 c1 c2 st n w
    · exact build7_pos b1 o1 c1 b2 o2 c2 st n rs w hlen hb1 hb2 hc1 hc2

end Go.Proofs.Qxb6627775a
