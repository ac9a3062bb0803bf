/-
  THE WALKS OF sameDelivered, keptAtOrAbove AND FnSettleTwiceIsSettleOnceAtTheGreater.
-/
import Derived.Test.Qxb6627775aLaw2
namespace Go.Proofs.Qxb6627775a
open Go.RowKit

set_option maxHeartbeats 400000 in
theorem bytes14 (a0 a3 a4 a5 : Int) (a1 a2 : Option Addr) (l1 c1 l2 c2 : Nat) (w : World) (h1 : l1 ≤ 65536) (h2 : l2 ≤ 65536) :
    Calls Try.prog 14 #[.int .u64 a0, .slice a1 l1 c1, .slice a2 l2 c2, .int .i64 a3, .int .u64 a4, .int .u64 a5] w fun e w' => e = .returned (.bool true) ∧ w' = w := by
  go_enter Try.func14, Try.ntmps14
  go_wp2
  go_ret
  exact ⟨rfl, rfl⟩

set_option maxHeartbeats 400000 in
theorem bytes14_any (a0 a3 a4 a5 : Int) (a1 a2 : Option Addr) (l1 c1 l2 c2 : Nat) (w : World) (h1 : l1 ≤ maxLen) (h2 : l2 ≤ maxLen) :
    Calls Try.prog 14 #[.int .u64 a0, .slice a1 l1 c1, .slice a2 l2 c2, .int .i64 a3, .int .u64 a4, .int .u64 a5] w fun e w' => ∃ bv : Bool, e = .returned (.bool bv) ∧ w' = w := by
  unfold maxLen at h1 h2
  go_enter Try.func14, Try.ntmps14
  go_wp2
  all_goals
    go_ret
    exact ⟨_, rfl, rfl⟩

set_option maxHeartbeats 1000000 in
theorem same15 (B1 b1 B2 b2 : Nat) (st n : Int) (rs : List (Int × Int)) (w : World) (h1 : Del w B1 b1 st n rs) (h2 : Del w B2 b2 st n rs) (hlen : rs.length ≤ 65536) :
    Calls Try.prog 15 #[.pointer (some ⟨b1, 0, none⟩), .pointer (some ⟨b2, 0, none⟩)] w fun e w' => e = .returned (.bool true) ∧ w' = w := by
  have H1 : Hid (Del w B1 b1 st n rs) := h1
  have H2 : Hid (Del w B2 b2 st n rs) := h2
  clear h1 h2
  go_enter Try.func15, Try.ntmps15
  go_wp2_with fail
  refine (settled9 H1.out).mono ?_
  rintro e w ⟨rfl, rfl⟩
  go_wp2_with fail
  refine (settled9 H2.out).mono ?_
  rintro e w ⟨rfl, rfl⟩
  go_wp2_with fail
  refine (n13 H1.out).mono ?_
  rintro e w ⟨rfl, rfl⟩
  go_wp2_with fail
  refine (n13 H2.out).mono ?_
  rintro e w ⟨rfl, rfl⟩
  go_wp2_with fail
  refine (len10 H1.out).mono ?_
  rintro e w ⟨rfl, rfl⟩
  go_wp2_with fail
  refine (len10 H2.out).mono ?_
  rintro e w ⟨rfl, rfl⟩
  go_wp2_with fail
  go_loop [6] (fun i => ∃ k : Nat, k ≤ rs.length ∧ i = .int .i64 k) (fun i => rs.length - (intOf i).toNat)
  case atStart => exact ⟨0, Nat.zero_le _, rfl⟩
  case round =>
    obtain ⟨k, hk, rfl⟩ := hrel
    by_cases hlt : k < rs.length
    · obtain ⟨f, l, hx⟩ : ∃ f l : Int, rs.getD k (0, 0) = (f, l) := ⟨_, _, rfl⟩
      have HX : Hid (rs.getD k (0, 0) = (f, l)) := hx
      clear hx
      go_wp2_with fail
      refine (first11 H1.out hlt HX.out).mono ?_
      rintro e w ⟨rfl, rfl⟩
      go_wp2_with fail
      refine (first11 H2.out hlt HX.out).mono ?_
      rintro e w ⟨rfl, rfl⟩
      go_wp2_with fail
      refine (last12 H1.out hlt HX.out).mono ?_
      rintro e w ⟨rfl, rfl⟩
      go_wp2_with fail
      refine (last12 H2.out hlt HX.out).mono ?_
      rintro e w ⟨rfl, rfl⟩
      go_wp2
      go_round
      case rel => exact ⟨k + 1, by omega, by go_num⟩
      case measure => simp [intOf]; omega
    · go_wp2
      go_ret
      exact ⟨rfl, rfl⟩

set_option maxHeartbeats 1000000 in
theorem kept16 (B b : Nat) (st n : Int) (rs : List (Int × Int)) (w : World) (h : Del w B b st n rs) (hlen : rs.length ≤ 65536) (hc : Ch st rs) (hn : n = wrap64 (sumU rs)) :
    Calls Try.prog 16 #[.pointer (some ⟨b, 0, none⟩), .int .u64 st] w fun e w' => e = .returned (.bool true) ∧ w' = w := by
  have H1 : Hid (Del w B b st n rs) := h
  have HC : Hid (Ch st rs) := hc
  have HN : Hid (n = wrap64 (sumU rs)) := hn
  clear h hc hn
  go_enter Try.func16, Try.ntmps16
  go_wp2_with fail
  refine (settled9 H1.out).mono ?_
  rintro e w ⟨rfl, rfl⟩
  go_wp2_with fail
  refine (len10 H1.out).mono ?_
  rintro e w ⟨rfl, rfl⟩
  go_wp2_with fail
  go_loop [5, 7] (fun s i => ∃ k : Nat, k ≤ rs.length ∧ i = .int .i64 k ∧ s = .int .u64 (sumU (rs.take k))) (fun _ i => rs.length - (intOf i).toNat)
  case atStart => exact ⟨0, Nat.zero_le _, rfl, rfl⟩
  case round =>
    obtain ⟨k, hk, rfl, rfl⟩ := hrel
    obtain ⟨s, hs'⟩ : ∃ s, s = sumU (rs.take k) := ⟨_, rfl⟩
    rw [← hs']
    have HS : Hid (s = sumU (rs.take k)) := hs'
    clear hs'
    by_cases hlt : k < rs.length
    · obtain ⟨f, l, hx⟩ : ∃ f l : Int, rs.getD k (0, 0) = (f, l) := ⟨_, _, rfl⟩
      have hg := ch_get rs st HC.out k hlt
      rw [hx] at hg
      obtain ⟨hg1, hg2⟩ := hg
      simp only at hg1 hg2
      have HX : Hid (rs.getD k (0, 0) = (f, l)) := hx
      have HT : Hid (sumU (rs.take (k + 1)) = IntKind.u64.wrap (s + IntKind.u64.wrap (IntKind.u64.wrap (l - f) + 1))) := by
        show sumU (rs.take (k + 1)) = _
        rw [take_snoc rs k hlt, hx, sumU_snoc, HS.out]
      clear hx
      go_wp2_with fail
      refine (first11 H1.out hlt HX.out).mono ?_
      rintro e w ⟨rfl, rfl⟩
      go_wp2_with fail
      refine (last12 H1.out hlt HX.out).mono ?_
      rintro e w ⟨rfl, rfl⟩
      go_wp2
      go_round
      case rel => exact ⟨k + 1, by omega, by go_num, by rw [HT.out]⟩
      case measure => simp [intOf]; omega
    · have hsn : wrap64 s = n := by rw [HS.out, List.take_of_length_le (by omega), HN.out]
      go_wp2_with fail
      refine (n13 H1.out).mono ?_
      rintro e w ⟨rfl, rfl⟩
      go_wp2
      go_ret
      refine ⟨?_, rfl⟩
      first | rfl | (simp [hsn]; done) | simp

/-- Too long: yes at once. -/
theorem twice_long (a0 a3 a4 a5 : Int) (a1 a2 : Option Addr) (l1 c1 l2 c2 : Nat) (w : World) (h1 : l1 ≤ maxLen) (h2 : l2 ≤ maxLen) (h : ¬ (l1 ≤ 65536 ∧ l2 ≤ 65536)) :
    Calls Try.prog 4 #[.int .u64 a0, .slice a1 l1 c1, .slice a2 l2 c2, .int .i64 a3, .int .u64 a4, .int .u64 a5] w fun e w' => e = .returned (.bool true) ∧ Below w.heap.size w w' := by
  go_enter Try.func4, Try.ntmps4
  go_wp2_with fail
  refine (bytes14_any _ _ _ _ _ _ _ _ _ _ _ h1 h2).mono ?_
  rintro e w ⟨bv, rfl, rfl⟩
  unfold maxLen at h1 h2
  cases bv
  · go_wp2
    go_ret
    exact ⟨rfl, Below.refl _ _⟩
  · by_cases hl1 : l1 ≤ 65536
    · have hl2 : ¬ l2 ≤ 65536 := fun e => h ⟨hl1, e⟩
      clear h
      go_wp2
      go_ret
      exact ⟨rfl, Below.refl _ _⟩
    · clear h
      go_wp2
      go_ret
      exact ⟨rfl, Below.refl _ _⟩

theorem twice_ne (a0 a3 a4 a5 : Int) (a1 a2 : Option Addr) (l1 c1 l2 c2 : Nat) (w : World) (h1 : l1 ≤ 65536) (h2 : l2 ≤ 65536) (h : l1 ≠ l2) :
    Calls Try.prog 4 #[.int .u64 a0, .slice a1 l1 c1, .slice a2 l2 c2, .int .i64 a3, .int .u64 a4, .int .u64 a5] w fun e w' => e = .returned (.bool true) ∧ Below w.heap.size w w' := by
  go_enter Try.func4, Try.ntmps4
  go_wp2_with fail
  refine (bytes14 _ _ _ _ _ _ _ _ _ _ _ h1 h2).mono ?_
  rintro e w ⟨rfl, rfl⟩
  go_wp2_with fail
  refine (valid6_ne _ _ _ _ _ _ _ _ _ h1 h2 h).mono ?_
  rintro e w ⟨rfl, rfl⟩
  go_wp2
  go_ret
  exact ⟨rfl, Below.refl _ _⟩

set_option maxHeartbeats 1000000 in
theorem twice_eq (st n a b : Int) (a1 a2 : Option Addr) (c1 c2 : Nat) (rs : List (Int × Int)) (w : World) (hlen : rs.length ≤ 65536) (h1 : Firsts w a1 rs) (h2 : Lasts w a2 rs) :
    Calls Try.prog 4 #[.int .u64 st, .slice a1 rs.length c1, .slice a2 rs.length c2, .int .i64 n, .int .u64 a, .int .u64 b] w fun e w' => e = .returned (.bool true) ∧ Below w.heap.size w w' := by
  have H1 : Hid (Firsts w a1 rs) := h1
  have H2 : Hid (Lasts w a2 rs) := h2
  clear h1 h2
  go_enter Try.func4, Try.ntmps4
  go_wp2_with fail
  refine (bytes14 _ _ _ _ _ _ _ _ _ _ _ hlen hlen).mono ?_
  rintro e w ⟨rfl, rfl⟩
  go_wp2_with fail
  refine (valid6 _ _ _ _ _ _ _ _ hlen H1.out H2.out).mono ?_
  rintro e w1 ⟨bv, rfl, hgood, hb1⟩
  cases bv
  · go_wp2
    go_ret
    exact ⟨rfl, hb1⟩
  · have HC : Hid (Ch st rs) := ch_of_good rs st (hgood rfl).1
    have HN : Hid (n = wrap64 (sumU rs)) := (hgood rfl).2
    clear hgood
    have HB1 : Hid (Below w.heap.size w w1) := hb1
    clear hb1
    go_wp2_with fail
    refine (build7 _ _ _ _ _ _ _ _ hlen (H1.out.keep HB1.out) (H2.out.keep HB1.out)).mono ?_
    rintro e w2 ⟨rfl, hdel, hb2⟩
    obtain ⟨B, hB⟩ : ∃ B, B = w1.heap.size := ⟨_, rfl⟩
    rw [← hB] at hdel
    rw [← hB]
    have HB2 : Hid (Below w.heap.size w w2) := HB1.out.trans (hb2.mono HB1.out.size)
    have HW2 : Hid (w.heap.size ≤ B) := by rw [hB]; exact HB1.out.size
    have HD2 : Hid (Del w2 B B st n rs) := hdel
    clear hdel hb2 hB
    go_wp2_with fail
    refine (settle8 _ _ _ _ _ _ _ HD2.out hlen).mono ?_
    rintro e w3 ⟨rfl, hdel, hb3⟩
    have HB3 : Hid (Below w.heap.size w w3) := HB2.out.trans (hb3.mono HW2.out)
    have HD3 : Hid (Del w3 B B (setS st a) (setN st a n rs) (setR st a rs)) := hdel
    clear hdel hb3
    go_wp2_with fail
    refine (settle8 _ _ _ _ _ _ _ HD3.out (Nat.le_trans (setR_length HC.out) hlen)).mono ?_
    rintro e w4 ⟨rfl, hdel, hb4⟩
    have HB4 : Hid (Below w.heap.size w w4) := HB3.out.trans (hb4.mono HW2.out)
    rw [setS_twice, setN_twice HC.out HN.out, setR_twice HC.out] at hdel
    have HD4 : Hid (Del w4 B B (setS st (maxI a b)) (setN st (maxI a b) n rs) (setR st (maxI a b) rs)) := hdel
    clear hdel hb4
    obtain ⟨m, hm⟩ : ∃ m, m = maxI a b := ⟨_, rfl⟩
    have HM : Hid (m = maxI a b) := hm
    rw [← hm] at HD4
    clear hm
    by_cases hab : a < b
    · have hmb : m = b := by rw [HM.out]; unfold maxI; rw [if_pos hab]
      rw [hmb] at HD4
      clear hmb
      go_wp2_with fail
      refine (build7 _ _ _ _ _ _ _ _ hlen (H1.out.keep HB4.out) (H2.out.keep HB4.out)).mono ?_
      rintro e w5 ⟨rfl, hdel, hb5⟩
      obtain ⟨C, hC⟩ : ∃ C, C = w4.heap.size := ⟨_, rfl⟩
      rw [← hC] at hdel
      rw [← hC]
      have HD5 : Hid (Del w5 C C st n rs) := hdel
      have HB5 : Hid (Below w4.heap.size w4 w5) := hb5
      have HCC : Hid (C = w4.heap.size) := hC
      clear hdel hb5 hC
      go_wp2_with fail
      refine (settle8 _ _ _ _ _ _ _ HD5.out hlen).mono ?_
      rintro e w6 ⟨rfl, hdel, hb6⟩
      rw [HCC.out] at hb6
      have HB6 : Hid (Below w4.heap.size w4 w6) := HB5.out.trans hb6
      have HD6 : Hid (Del w6 C C (setS st b) (setN st b n rs) (setR st b rs)) := hdel
      have HDB : Hid (Del w6 B B (setS st b) (setN st b n rs) (setR st b rs)) := HD4.out.keep HB6.out
      have HBF : Hid (Below w.heap.size w w6) := HB4.out.trans (HB6.out.mono HB4.out.size)
      have HCF : Hid (Ch (setS st b) (setR st b rs)) := by
        show Ch (setS st b) (setR st b rs)
        rw [setR_ch HC.out]; exact ch_filt _ _ _ HC.out
      have HNF : Hid (setN st b n rs = wrap64 (sumU (setR st b rs))) := setN_ch HN.out
      have hlF : (setR st b rs).length ≤ 65536 := Nat.le_trans (setR_length HC.out) hlen
      clear hdel hb6
      obtain ⟨R, hR⟩ : ∃ R, R = setR st b rs := ⟨_, rfl⟩
      rw [← hR] at HD6 HDB HCF HNF hlF
      obtain ⟨N, hN⟩ : ∃ N, N = setN st b n rs := ⟨_, rfl⟩
      rw [← hN] at HD6 HDB HNF
      clear hR hN HM HD4 HD5 HD3 HD2
      by_cases hw : st < b
      · have e : setS st b = b := by unfold setS; rw [if_pos hw]
        rw [e] at HD6 HDB HCF
        clear e
        go_wp2_with fail
        refine (same15 _ _ _ _ _ _ _ _ HDB.out HD6.out hlF).mono ?_
        rintro e w6 ⟨rfl, rfl⟩
        go_wp2_with fail
        refine (kept16 _ _ _ _ _ _ HDB.out hlF HCF.out HNF.out).mono ?_
        rintro e w6 ⟨rfl, rfl⟩
        go_wp2
        go_ret
        exact ⟨rfl, HBF.out⟩
      · have e : setS st b = st := by unfold setS; rw [if_neg hw]
        rw [e] at HD6 HDB HCF
        clear e
        go_wp2_with fail
        refine (same15 _ _ _ _ _ _ _ _ HDB.out HD6.out hlF).mono ?_
        rintro e w6 ⟨rfl, rfl⟩
        go_wp2_with fail
        refine (kept16 _ _ _ _ _ _ HDB.out hlF HCF.out HNF.out).mono ?_
        rintro e w6 ⟨rfl, rfl⟩
        go_wp2
        go_ret
        exact ⟨rfl, HBF.out⟩
    · have hmb : m = a := by rw [HM.out]; unfold maxI; rw [if_neg hab]
      rw [hmb] at HD4
      clear hmb
      go_wp2_with fail
      refine (build7 _ _ _ _ _ _ _ _ hlen (H1.out.keep HB4.out) (H2.out.keep HB4.out)).mono ?_
      rintro e w5 ⟨rfl, hdel, hb5⟩
      obtain ⟨C, hC⟩ : ∃ C, C = w4.heap.size := ⟨_, rfl⟩
      rw [← hC] at hdel
      rw [← hC]
      have HD5 : Hid (Del w5 C C st n rs) := hdel
      have HB5 : Hid (Below w4.heap.size w4 w5) := hb5
      have HCC : Hid (C = w4.heap.size) := hC
      clear hdel hb5 hC
      go_wp2_with fail
      refine (settle8 _ _ _ _ _ _ _ HD5.out hlen).mono ?_
      rintro e w6 ⟨rfl, hdel, hb6⟩
      rw [HCC.out] at hb6
      have HB6 : Hid (Below w4.heap.size w4 w6) := HB5.out.trans hb6
      have HD6 : Hid (Del w6 C C (setS st a) (setN st a n rs) (setR st a rs)) := hdel
      have HDB : Hid (Del w6 B B (setS st a) (setN st a n rs) (setR st a rs)) := HD4.out.keep HB6.out
      have HBF : Hid (Below w.heap.size w w6) := HB4.out.trans (HB6.out.mono HB4.out.size)
      have HCF : Hid (Ch (setS st a) (setR st a rs)) := by
        show Ch (setS st a) (setR st a rs)
        rw [setR_ch HC.out]; exact ch_filt _ _ _ HC.out
      have HNF : Hid (setN st a n rs = wrap64 (sumU (setR st a rs))) := setN_ch HN.out
      have hlF : (setR st a rs).length ≤ 65536 := Nat.le_trans (setR_length HC.out) hlen
      clear hdel hb6
      obtain ⟨R, hR⟩ : ∃ R, R = setR st a rs := ⟨_, rfl⟩
      rw [← hR] at HD6 HDB HCF HNF hlF
      obtain ⟨N, hN⟩ : ∃ N, N = setN st a n rs := ⟨_, rfl⟩
      rw [← hN] at HD6 HDB HNF
      clear hR hN HM HD4 HD5 HD3 HD2
      by_cases hw : st < a
      · have e : setS st a = a := by unfold setS; rw [if_pos hw]
        rw [e] at HD6 HDB HCF
        clear e
        go_wp2_with fail
        refine (same15 _ _ _ _ _ _ _ _ HDB.out HD6.out hlF).mono ?_
        rintro e w6 ⟨rfl, rfl⟩
        go_wp2_with fail
        refine (kept16 _ _ _ _ _ _ HDB.out hlF HCF.out HNF.out).mono ?_
        rintro e w6 ⟨rfl, rfl⟩
        go_wp2
        go_ret
        exact ⟨rfl, HBF.out⟩
      · have e : setS st a = st := by unfold setS; rw [if_neg hw]
        rw [e] at HD6 HDB HCF
        clear e
        go_wp2_with fail
        refine (same15 _ _ _ _ _ _ _ _ HDB.out HD6.out hlF).mono ?_
        rintro e w6 ⟨rfl, rfl⟩
        go_wp2_with fail
        refine (kept16 _ _ _ _ _ _ HDB.out hlF HCF.out HNF.out).mono ?_
        rintro e w6 ⟨rfl, rfl⟩
        go_wp2
        go_ret
        exact ⟨rfl, HBF.out⟩

end Go.Proofs.Qxb6627775a
