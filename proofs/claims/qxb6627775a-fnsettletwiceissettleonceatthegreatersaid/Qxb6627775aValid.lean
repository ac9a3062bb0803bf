import Derived.Test.Qxb6627775aBuild
namespace Go.Proofs.Qxb6627775a
open Go.RowKit

/-- Lengths that part: no. -/
theorem valid6_ne (a1 a2 : Option Addr) (l1 c1 l2 c2 : Nat) (st n : Int) (w : World) (_h1 : l1 ≤ 65536) (_h2 : l2 ≤ 65536) (hne : l1 ≠ l2) :
    Calls Try.prog 6 #[.int .u64 st, .slice a1 l1 c1, .slice a2 l2 c2, .int .i64 n] w fun e w' => e = .returned (.bool false) ∧ w' = w := by
  have hn : ((l1 : Int) != (l2 : Int)) = true := by simp; omega
  go_enter Try.func6, Try.ntmps6
  go_wp2
  go_ret
  exact ⟨rfl, rfl⟩

/-- What validDelivered answers: where it says yes, the runs are good. -/
def Says (st n : Int) (rs : List (Int × Int)) (w : World) (e : Ending) (w' : World) : Prop := ∃ bv : Bool, e = .returned (.bool bv) ∧ (bv = true → Good st n rs) ∧ Below w.heap.size w w'

theorem valid6_nil (a1 a2 : Option Addr) (c1 c2 : Nat) (st n : Int) (w : World) :
    Calls Try.prog 6 #[.int .u64 st, .slice a1 0 c1, .slice a2 0 c2, .int .i64 n] w (Says st n [] w) := by
  go_enter Try.func6, Try.ntmps6
  go_wp2
  refine wp_loop_rounds 1 ?_
  rw [rounds_succ]
  go_wp2
  go_ret
  exact ⟨_, rfl, fun h => ⟨GoodTo.zero, by simpa [sumU, wrap64] using h⟩, Below.refl _ _⟩

theorem below_drewN' {B : Nat} {a w : World} (h : Below B a w) (n : Nat) : Below B a (w.drewN n) := ⟨h.os, h.tape, h.output, h.size, h.block⟩

set_option maxHeartbeats 1000000 in
theorem valid6_pos (b1 o1 c1 b2 o2 c2 : Nat) (st n : Int) (rs : List (Int × Int)) (w : World) (hlen : rs.length ≤ 65536) (hb1 : b1 < w.heap.size) (hb2 : b2 < w.heap.size)
    (hc1 : ∀ k, k < rs.length → w.cell? ⟨b1, o1 + k, none⟩ = some (.int .u64 (rs.getD k (0, 0)).1)) (hc2 : ∀ k, k < rs.length → w.cell? ⟨b2, o2 + k, none⟩ = some (.int .u64 (rs.getD k (0, 0)).2)) :
    Calls Try.prog 6 #[.int .u64 st, .slice (some ⟨b1, o1, none⟩) rs.length c1, .slice (some ⟨b2, o2, none⟩) rs.length c2, .int .i64 n] w (Says st n rs w) := by
  have HC1 : Hid (∀ k, k < rs.length → w.cell? ⟨b1, o1 + k, none⟩ = some (.int .u64 (rs.getD k (0, 0)).1)) := hc1
  have HC2 : Hid (∀ k, k < rs.length → w.cell? ⟨b2, o2 + k, none⟩ = some (.int .u64 (rs.getD k (0, 0)).2)) := hc2
  clear hc1 hc2
  go_enter Try.func6, Try.ntmps6
  go_wp2
  go_loopw [9, 10] (fun s i wr => ∃ k : Nat, k ≤ rs.length ∧ i = .int .i64 k ∧ s = .int .u64 (sumU (rs.take k)) ∧ GoodTo st rs k ∧ Below w.heap.size w wr) (fun _ i _ => rs.length - (intOf i).toNat)
  case atStart => exact ⟨0, Nat.zero_le _, rfl, rfl, GoodTo.zero, Below.refl _ _⟩
  case round =>
    obtain ⟨k, hk, rfl, rfl, hgood, hbel⟩ := hrel
    have HG : Hid (GoodTo st rs k) := hgood
    have HL : Hid (Below w.heap.size w wr) := hbel
    clear hgood hbel
    obtain ⟨s, hs⟩ : ∃ s, s = sumU (rs.take k) := ⟨_, rfl⟩
    rw [← hs]
    have HS : Hid (s = sumU (rs.take k)) := hs
    clear hs
    by_cases hlt : k < rs.length
    · have hl0 : (k : Int) < (rs.length : Int) := by omega
      obtain ⟨f, l, hx⟩ : ∃ f l : Int, rs.getD k (0, 0) = (f, l) := ⟨_, _, rfl⟩
      have g1 : wr.cell? ⟨b1, o1 + k, none⟩ = some (.int .u64 f) := by rw [HL.out.cell (by exact hb1), HC1.out k hlt, hx]
      have g2 : wr.cell? ⟨b2, o2 + k, none⟩ = some (.int .u64 l) := by rw [HL.out.cell (by exact hb2), HC2.out k hlt, hx]
      have HX : Hid (rs.getD k (0, 0) = (f, l)) := hx
      have HT : Hid (sumU (rs.take (k + 1)) = IntKind.u64.wrap (s + IntKind.u64.wrap (IntKind.u64.wrap (l - f) + 1))) := by
        show sumU (rs.take (k + 1)) = _
        rw [take_snoc rs k hlt, hx, sumU_snoc, HS.out]
      clear hx
      by_cases hfl : l < f
      · go_wp2
        go_quiet (fail)
        go_wp2
        go_ret
        exact ⟨_, rfl, fun h => by simp at h, below_drewN' HL.out _⟩
      · rcases Nat.eq_zero_or_pos k with rfl | hpos
        · simp only [Nat.add_zero] at g1 g2
          have hl1 : (0 : Int) < (rs.length : Int) := by omega
          by_cases hst : f < st
          · go_wp2
            go_quiet (fail)
            go_wp2
            go_ret
            exact ⟨_, rfl, fun h => by simp at h, below_drewN' HL.out _⟩
          · go_wp2
            go_quiet (fail)
            go_wp2
            go_quiet (fail)
            go_wp2
            go_roundw
            case rel => exact ⟨1, by omega, by go_num, by rw [HT.out], GoodTo.one HX.out (by omega) (by omega), by repeat (first | exact HL.out | apply below_drewN')⟩
            case measure => simp [intOf]; omega
        · obtain ⟨j, rfl⟩ : ∃ j, k = j + 1 := ⟨k - 1, by omega⟩
          obtain ⟨pf, pl, hp⟩ : ∃ f l : Int, rs.getD j (0, 0) = (f, l) := ⟨_, _, rfl⟩
          have g3 : wr.cell? ⟨b2, o2 + j, none⟩ = some (.int .u64 pl) := by rw [HL.out.cell (by exact hb2), HC2.out j (by omega), hp]
          have HP : Hid (rs.getD j (0, 0) = (pf, pl)) := hp
          clear hp
          by_cases hfp : f ≤ pl
          · go_wp2
            go_quiet (fail)
            go_wp2
            go_quiet (fail)
            go_wp2
            go_ret
            exact ⟨_, rfl, fun h => by simp at h, by repeat (first | exact HL.out | apply below_drewN')⟩
          · have hd : decide (f ≤ pl) = false := decide_eq_false hfp
            by_cases h2 : IntKind.u64.wrap (f - pl) < 2
            · go_wp2
              go_quiet (fail)
              go_wp2
              go_quiet (fail)
              go_wp2
              go_ret
              exact ⟨_, rfl, fun h => by simp at h, by repeat (first | exact HL.out | apply below_drewN')⟩
            · go_wp2
              go_quiet (fail)
              go_wp2
              go_quiet (fail)
              go_wp2
              go_quiet (fail)
              go_wp2
              go_roundw
              case rel => exact ⟨j + 2, by omega, by go_num, by rw [HT.out], HG.out.step HX.out HP.out (by omega) (by omega), by repeat (first | exact HL.out | apply below_drewN')⟩
              case measure => simp [intOf]; omega
    · go_wp2
      go_ret
      have e : rs.take k = rs := List.take_of_length_le (by omega)
      refine ⟨_, rfl, fun h => ⟨?_, ?_⟩, HL.out⟩
      · have := HG.out
        rw [show k = rs.length by omega] at this
        exact this
      · have := HS.out
        rw [e] at this
        rw [← this]
        simpa using h

/-- validDelivered, for slices of one length. -/
theorem valid6 (a1 a2 : Option Addr) (c1 c2 : Nat) (st n : Int) (rs : List (Int × Int)) (w : World) (hlen : rs.length ≤ 65536) (h1 : Firsts w a1 rs) (h2 : Lasts w a2 rs) :
    Calls Try.prog 6 #[.int .u64 st, .slice a1 rs.length c1, .slice a2 rs.length c2, .int .i64 n] w (Says st n rs w) := by
  rcases h1 with rfl | ⟨b1, o1, rfl, hb1, hc1⟩
  · exact valid6_nil a1 a2 c1 c2 st n w
  · rcases h2 with rfl | ⟨b2, o2, rfl, hb2, hc2⟩
    · exact valid6_nil _ a2 c1 c2 st n w
    · exact valid6_pos b1 o1 c1 b2 o2 c2 st n rs w hlen hb1 hb2 hc1 hc2

end Go.Proofs.Qxb6627775a
