/-
  THE WALK OF FnSettleKeepsExactlyWhatLiesAtOrAboveSeq.
-/
import Derived.Test.Qxb6627775aLaw
namespace Go.Proofs.Qxb6627775a
open Go.RowKit

set_option maxHeartbeats 400000 in
theorem bytes5 (a0 a3 a4 : Int) (a1 a2 : Option Addr) (l1 c1 l2 c2 : Nat) (w : World) (h1 : l1 ≤ 65536) (h2 : l2 ≤ 65536) :
    Calls Try.prog 5 #[.int .u64 a0, .slice a1 l1 c1, .slice a2 l2 c2, .int .i64 a3, .int .u64 a4] w fun e w' => e = .returned (.bool true) ∧ w' = w := by
  go_enter Try.func5, Try.ntmps5
  go_wp2
  go_ret
  exact ⟨rfl, rfl⟩

set_option maxHeartbeats 400000 in
theorem bytes5_any (a0 a3 a4 : Int) (a1 a2 : Option Addr) (l1 c1 l2 c2 : Nat) (w : World) (h1 : l1 ≤ maxLen) (h2 : l2 ≤ maxLen) :
    Calls Try.prog 5 #[.int .u64 a0, .slice a1 l1 c1, .slice a2 l2 c2, .int .i64 a3, .int .u64 a4] w fun e w' => ∃ bv : Bool, e = .returned (.bool bv) ∧ w' = w := by
  unfold maxLen at h1 h2
  go_enter Try.func5, Try.ntmps5
  go_wp2
  all_goals
    go_ret
    exact ⟨_, rfl, rfl⟩

/-- Too long: yes at once. -/
theorem keeps_long (a0 a3 a4 : Int) (a1 a2 : Option Addr) (l1 c1 l2 c2 : Nat) (w : World) (h1 : l1 ≤ maxLen) (h2 : l2 ≤ maxLen) (h : ¬ (l1 ≤ 65536 ∧ l2 ≤ 65536)) :
    Calls Try.prog 3 #[.int .u64 a0, .slice a1 l1 c1, .slice a2 l2 c2, .int .i64 a3, .int .u64 a4] w fun e w' => e = .returned (.bool true) ∧ Below w.heap.size w w' := by
  go_enter Try.func3, Try.ntmps3
  go_wp2_with fail
  refine (bytes5_any _ _ _ _ _ _ _ _ _ _ h1 h2).mono ?_
  rintro e w' ⟨bv, rfl, rfl⟩
  unfold maxLen at h1 h2
  cases bv
  · go_wp2
    go_ret
    exact ⟨rfl, Below.refl _ _⟩
  · by_cases hl1 : l1 ≤ 65536
    · have hl2 : ¬ l2 ≤ 65536 := fun e => h ⟨hl1, e⟩
      clear h
      go_wp2
      go_ret
      exact ⟨rfl, Below.refl _ _⟩
    · clear h
      go_wp2
      go_ret
      exact ⟨rfl, Below.refl _ _⟩

/-- Two lengths: yes, for nothing is asked. -/
theorem keeps_ne (a0 a3 a4 : Int) (a1 a2 : Option Addr) (l1 c1 l2 c2 : Nat) (w : World) (h1 : l1 ≤ 65536) (h2 : l2 ≤ 65536) (h : l1 ≠ l2) :
    Calls Try.prog 3 #[.int .u64 a0, .slice a1 l1 c1, .slice a2 l2 c2, .int .i64 a3, .int .u64 a4] w fun e w' => e = .returned (.bool true) ∧ Below w.heap.size w w' := by
  go_enter Try.func3, Try.ntmps3
  go_wp2_with fail
  refine (bytes5 _ _ _ _ _ _ _ _ _ _ h1 h2).mono ?_
  rintro e w' ⟨rfl, rfl⟩
  go_wp2_with fail
  refine (valid6_ne _ _ _ _ _ _ _ _ _ h1 h2 h).mono ?_
  rintro e w' ⟨rfl, rfl⟩
  go_wp2
  go_ret
  exact ⟨rfl, Below.refl _ _⟩

set_option maxHeartbeats 2000000 in
theorem keeps_up (st n seq : Int) (a1 a2 : Option Addr) (c1 c2 : Nat) (rs : List (Int × Int)) (w : World) (hlen : rs.length ≤ 65536) (h1 : Firsts w a1 rs) (h2 : Lasts w a2 rs) (hs : st < seq) (hne : 0 < rs.length) :
    Calls Try.prog 3 #[.int .u64 st, .slice a1 rs.length c1, .slice a2 rs.length c2, .int .i64 n, .int .u64 seq] w fun e w' => e = .returned (.bool true) ∧ Below w.heap.size w w' := by
  rcases h1 with rfl | ⟨b1, o1, rfl, hlt1, hc1⟩
  · simp at hne
  rcases h2 with rfl | ⟨b2, o2, rfl, hlt2, hc2⟩
  · simp at hne
  have H1 : Hid (Firsts w (some ⟨b1, o1, none⟩) rs) := .inr ⟨b1, o1, rfl, hlt1, hc1⟩
  have H2 : Hid (Lasts w (some ⟨b2, o2, none⟩) rs) := .inr ⟨b2, o2, rfl, hlt2, hc2⟩
  have HC1 : Hid (∀ k, k < rs.length → w.cell? ⟨b1, o1 + k, none⟩ = some (.int .u64 (rs.getD k (0, 0)).1)) := hc1
  have HC2 : Hid (∀ k, k < rs.length → w.cell? ⟨b2, o2 + k, none⟩ = some (.int .u64 (rs.getD k (0, 0)).2)) := hc2
  clear hc1 hc2
  go_enter Try.func3, Try.ntmps3
  go_wp2_with fail
  refine (bytes5 _ _ _ _ _ _ _ _ _ _ hlen hlen).mono ?_
  rintro e w ⟨rfl, rfl⟩
  go_wp2_with fail
  refine (valid6 _ _ _ _ _ _ _ _ hlen H1.out H2.out).mono ?_
  rintro e w1 ⟨bv, rfl, hgood, hb1⟩
  cases bv
  · go_wp2
    go_ret
    exact ⟨rfl, hb1⟩
  · have HG : Hid (Good st n rs) := hgood rfl
    clear hgood
    go_wp2_with fail
    refine (build7 _ _ _ _ _ _ _ _ hlen (H1.out.keep hb1) (H2.out.keep hb1)).mono ?_
    rintro e w2 ⟨rfl, hdel, hb2⟩
    go_wp2_with fail
    refine (settle8 _ _ _ _ _ _ _ hdel hlen).mono ?_
    rintro e w3 ⟨rfl, hdel3, hb3⟩
    have hb2' : Below w.heap.size w1 w2 := hb2.mono hb1.size
    have hb3' : Below w.heap.size w2 w3 := hb3.mono hb1.size
    have HL3 : Hid (Below w.heap.size w w3) := (hb1.trans hb2').trans hb3'
    obtain ⟨B, hB⟩ : ∃ B, B = w1.heap.size := ⟨_, rfl⟩
    rw [← hB] at hdel3
    rw [← hB]
    have hset : setS st seq = seq := by unfold setS; rw [if_pos hs]
    rw [setN_sum HG.out, setR_filt HG.out, hset] at hdel3
    have HD3 : Hid (Del w3 B B seq (wrap64 (sumU (filt seq rs))) (filt seq rs)) := hdel3
    have HFL : Hid ((filt seq rs).length ≤ rs.length) := filt_length_le _ _
    clear hdel3 hdel hb1 hb2 hb3 hb2' hb3' hset HG hB
    obtain ⟨R, hR⟩ : ∃ R, R = filt seq rs := ⟨_, rfl⟩
    rw [← hR] at HD3 HFL
    have HR : Hid (R = filt seq rs) := hR
    clear hR
    have hRl : R.length ≤ 65536 := Nat.le_trans HFL.out hlen
    go_wp2_with (first | (go_at_call 9; refine (settled9 HD3.out).mono ?_; rintro e w3 ⟨rfl, rfl⟩) | (go_at_call 10; refine (len10 HD3.out).mono ?_; rintro e w3 ⟨rfl, rfl⟩))
    go_loopw [14, 15, 16] (fun j s i wr => ∃ k : Nat, k ≤ rs.length ∧ i = .int .i64 k ∧ j = .int .i64 (filt seq (rs.take k)).length ∧ s = .int .u64 (sumU (filt seq (rs.take k))) ∧ Del wr B B seq (wrap64 (sumU R)) R ∧ Below w.heap.size w wr)
      (fun _ _ i _ => rs.length - (intOf i).toNat)
    case atStart => exact ⟨0, Nat.zero_le _, rfl, rfl, rfl, HD3.out, HL3.out⟩
    case round =>
      obtain ⟨k, hk, rfl, rfl, rfl, hdel, hbel⟩ := hrel
      have HD : Hid (∀ d, Del (wr.drewN d) B B seq (wrap64 (sumU R)) R) := fun _ => hdel
      have HE : Hid (Del wr B B seq (wrap64 (sumU R)) R) := hdel
      have HL : Hid (Below w.heap.size w wr) := hbel
      clear hdel hbel
      obtain ⟨s, hs'⟩ : ∃ s, s = sumU (filt seq (rs.take k)) := ⟨_, rfl⟩
      rw [← hs']
      have HS : Hid (s = sumU (filt seq (rs.take k))) := hs'
      clear hs'
      obtain ⟨j, hj'⟩ : ∃ j, j = (filt seq (rs.take k)).length := ⟨_, rfl⟩
      rw [← hj']
      have HJ : Hid (j = (filt seq (rs.take k)).length) := hj'
      clear hj'
      have hjk : j ≤ k := by rw [HJ.out]; exact Nat.le_trans (filt_length_le _ _) (List.length_take_le _ _)
      by_cases hlt : k < rs.length
      · have hl0 : (k : Int) < (rs.length : Int) := by omega
        obtain ⟨f, l, hx⟩ : ∃ f l : Int, rs.getD k (0, 0) = (f, l) := ⟨_, _, rfl⟩
        have g1 : wr.cell? ⟨b1, o1 + k, none⟩ = some (.int .u64 f) := by rw [HL.out.cell (by exact hlt1), HC1.out k hlt, hx]
        have g2 : wr.cell? ⟨b2, o2 + k, none⟩ = some (.int .u64 l) := by rw [HL.out.cell (by exact hlt2), HC2.out k hlt, hx]
        have HX : Hid (rs.getD k (0, 0) = (f, l)) := hx
        clear hx
        by_cases hl : l < seq
        · go_wp2
          go_roundw
          case rel => exact ⟨k + 1, by omega, by go_num, by rw [filt_lt hlt HX.out hl, HJ.out], by rw [filt_lt hlt HX.out hl, HS.out], HE.out, HL.out⟩
          case measure => simp [intOf]; omega
        · have hat := filt_at hlt HX.out hl
          rw [← HJ.out, ← HR.out] at hat
          have hjR : j < R.length := hat.1
          by_cases hf : f < seq
          · have HV : Hid (R.getD j (0, 0) = (seq, l)) := by have := hat.2; rw [if_pos hf] at this; exact this
            have HT : Hid (filt seq (rs.take (k + 1)) = filt seq (rs.take k) ++ [(seq, l)]) := by have := filt_ge hlt HX.out hl; rw [if_pos hf] at this; exact this
            clear hat
            go_wp2
            go_quiet ((first | (go_at_call 11; exact Calls.quiet_of_same (first11 (HD.out _) hjR HV.out)) | (go_at_call 12; exact Calls.quiet_of_same (last12 (HD.out _) hjR HV.out))))
            go_wp2
            go_roundw
            case rel => exact ⟨k + 1, by omega, by go_num, by rw [HT.out, List.length_append, ← HJ.out]; go_num, by rw [HT.out, sumU_snoc, HS.out], HD.out _, below_drewN' HL.out _⟩
            case measure => simp [intOf]; omega
          · have HV : Hid (R.getD j (0, 0) = (f, l)) := by have := hat.2; rw [if_neg hf] at this; exact this
            have HT : Hid (filt seq (rs.take (k + 1)) = filt seq (rs.take k) ++ [(f, l)]) := by have := filt_ge hlt HX.out hl; rw [if_neg hf] at this; exact this
            clear hat
            go_wp2
            go_quiet ((first | (go_at_call 11; exact Calls.quiet_of_same (first11 (HD.out _) hjR HV.out)) | (go_at_call 12; exact Calls.quiet_of_same (last12 (HD.out _) hjR HV.out))))
            go_wp2
            go_roundw
            case rel => exact ⟨k + 1, by omega, by go_num, by rw [HT.out, List.length_append, ← HJ.out]; go_num, by rw [HT.out, sumU_snoc, HS.out], HD.out _, below_drewN' HL.out _⟩
            case measure => simp [intOf]; omega
      · have HK : Hid (filt seq (rs.take k) = R) := by rw [List.take_of_length_le (by omega)]; exact HR.out.symm
        have hjR : (j : Int) = (R.length : Int) := by have := HJ.out; rw [HK.out] at this; omega
        have hsR : wrap64 s = wrap64 (sumU R) := by rw [HS.out, HK.out]
        have hq : ((j : Int) == (R.length : Int)) = true := by simpa using hjR
        clear hjR
        go_wp2_with (go_at_call 13; refine (n13 HE.out).mono ?_; rintro e wr ⟨rfl, rfl⟩)
        go_ret
        refine ⟨?_, HL.out⟩
        first | rfl | (simp [hsR]; done) | simp

set_option maxHeartbeats 2000000 in
theorem keeps_no (st n seq : Int) (a1 a2 : Option Addr) (c1 c2 : Nat) (rs : List (Int × Int)) (w : World) (hlen : rs.length ≤ 65536) (h1 : Firsts w a1 rs) (h2 : Lasts w a2 rs) (hs : ¬ st < seq) (hne : 0 < rs.length) :
    Calls Try.prog 3 #[.int .u64 st, .slice a1 rs.length c1, .slice a2 rs.length c2, .int .i64 n, .int .u64 seq] w fun e w' => e = .returned (.bool true) ∧ Below w.heap.size w w' := by
  rcases h1 with rfl | ⟨b1, o1, rfl, hlt1, hc1⟩
  · simp at hne
  rcases h2 with rfl | ⟨b2, o2, rfl, hlt2, hc2⟩
  · simp at hne
  have H1 : Hid (Firsts w (some ⟨b1, o1, none⟩) rs) := .inr ⟨b1, o1, rfl, hlt1, hc1⟩
  have H2 : Hid (Lasts w (some ⟨b2, o2, none⟩) rs) := .inr ⟨b2, o2, rfl, hlt2, hc2⟩
  have HC1 : Hid (∀ k, k < rs.length → w.cell? ⟨b1, o1 + k, none⟩ = some (.int .u64 (rs.getD k (0, 0)).1)) := hc1
  have HC2 : Hid (∀ k, k < rs.length → w.cell? ⟨b2, o2 + k, none⟩ = some (.int .u64 (rs.getD k (0, 0)).2)) := hc2
  clear hc1 hc2
  go_enter Try.func3, Try.ntmps3
  go_wp2_with fail
  refine (bytes5 _ _ _ _ _ _ _ _ _ _ hlen hlen).mono ?_
  rintro e w ⟨rfl, rfl⟩
  go_wp2_with fail
  refine (valid6 _ _ _ _ _ _ _ _ hlen H1.out H2.out).mono ?_
  rintro e w1 ⟨bv, rfl, hgood, hb1⟩
  cases bv
  · go_wp2
    go_ret
    exact ⟨rfl, hb1⟩
  · have HG : Hid (Good st n rs) := hgood rfl
    clear hgood
    go_wp2_with fail
    refine (build7 _ _ _ _ _ _ _ _ hlen (H1.out.keep hb1) (H2.out.keep hb1)).mono ?_
    rintro e w2 ⟨rfl, hdel, hb2⟩
    go_wp2_with fail
    refine (settle8 _ _ _ _ _ _ _ hdel hlen).mono ?_
    rintro e w3 ⟨rfl, hdel3, hb3⟩
    have hb2' : Below w.heap.size w1 w2 := hb2.mono hb1.size
    have hb3' : Below w.heap.size w2 w3 := hb3.mono hb1.size
    have HL3 : Hid (Below w.heap.size w w3) := (hb1.trans hb2').trans hb3'
    obtain ⟨B, hB⟩ : ∃ B, B = w1.heap.size := ⟨_, rfl⟩
    rw [← hB] at hdel3
    rw [← hB]
    have hset : setS st seq = st := by unfold setS; rw [if_neg (by omega)]
    rw [setN_sum HG.out, setR_filt HG.out, hset] at hdel3
    have HD3 : Hid (Del w3 B B st (wrap64 (sumU (filt st rs))) (filt st rs)) := hdel3
    have HFL : Hid ((filt st rs).length ≤ rs.length) := filt_length_le _ _
    clear hdel3 hdel hb1 hb2 hb3 hb2' hb3' hset HG hB
    obtain ⟨R, hR⟩ : ∃ R, R = filt st rs := ⟨_, rfl⟩
    rw [← hR] at HD3 HFL
    have HR : Hid (R = filt st rs) := hR
    clear hR
    have hRl : R.length ≤ 65536 := Nat.le_trans HFL.out hlen
    go_wp2_with (first | (go_at_call 9; refine (settled9 HD3.out).mono ?_; rintro e w3 ⟨rfl, rfl⟩) | (go_at_call 10; refine (len10 HD3.out).mono ?_; rintro e w3 ⟨rfl, rfl⟩))
    go_loopw [14, 15, 16] (fun j s i wr => ∃ k : Nat, k ≤ rs.length ∧ i = .int .i64 k ∧ j = .int .i64 (filt st (rs.take k)).length ∧ s = .int .u64 (sumU (filt st (rs.take k))) ∧ Del wr B B st (wrap64 (sumU R)) R ∧ Below w.heap.size w wr)
      (fun _ _ i _ => rs.length - (intOf i).toNat)
    case atStart => exact ⟨0, Nat.zero_le _, rfl, rfl, rfl, HD3.out, HL3.out⟩
    case round =>
      obtain ⟨k, hk, rfl, rfl, rfl, hdel, hbel⟩ := hrel
      have HD : Hid (∀ d, Del (wr.drewN d) B B st (wrap64 (sumU R)) R) := fun _ => hdel
      have HE : Hid (Del wr B B st (wrap64 (sumU R)) R) := hdel
      have HL : Hid (Below w.heap.size w wr) := hbel
      clear hdel hbel
      obtain ⟨s, hs'⟩ : ∃ s, s = sumU (filt st (rs.take k)) := ⟨_, rfl⟩
      rw [← hs']
      have HS : Hid (s = sumU (filt st (rs.take k))) := hs'
      clear hs'
      obtain ⟨j, hj'⟩ : ∃ j, j = (filt st (rs.take k)).length := ⟨_, rfl⟩
      rw [← hj']
      have HJ : Hid (j = (filt st (rs.take k)).length) := hj'
      clear hj'
      have hjk : j ≤ k := by rw [HJ.out]; exact Nat.le_trans (filt_length_le _ _) (List.length_take_le _ _)
      by_cases hlt : k < rs.length
      · have hl0 : (k : Int) < (rs.length : Int) := by omega
        obtain ⟨f, l, hx⟩ : ∃ f l : Int, rs.getD k (0, 0) = (f, l) := ⟨_, _, rfl⟩
        have g1 : wr.cell? ⟨b1, o1 + k, none⟩ = some (.int .u64 f) := by rw [HL.out.cell (by exact hlt1), HC1.out k hlt, hx]
        have g2 : wr.cell? ⟨b2, o2 + k, none⟩ = some (.int .u64 l) := by rw [HL.out.cell (by exact hlt2), HC2.out k hlt, hx]
        have HX : Hid (rs.getD k (0, 0) = (f, l)) := hx
        clear hx
        by_cases hl : l < st
        · go_wp2
          go_roundw
          case rel => exact ⟨k + 1, by omega, by go_num, by rw [filt_lt hlt HX.out hl, HJ.out], by rw [filt_lt hlt HX.out hl, HS.out], HE.out, HL.out⟩
          case measure => simp [intOf]; omega
        · have hat := filt_at hlt HX.out hl
          rw [← HJ.out, ← HR.out] at hat
          have hjR : j < R.length := hat.1
          by_cases hf : f < st
          · have HV : Hid (R.getD j (0, 0) = (st, l)) := by have := hat.2; rw [if_pos hf] at this; exact this
            have HT : Hid (filt st (rs.take (k + 1)) = filt st (rs.take k) ++ [(st, l)]) := by have := filt_ge hlt HX.out hl; rw [if_pos hf] at this; exact this
            clear hat
            go_wp2
            go_quiet ((first | (go_at_call 11; exact Calls.quiet_of_same (first11 (HD.out _) hjR HV.out)) | (go_at_call 12; exact Calls.quiet_of_same (last12 (HD.out _) hjR HV.out))))
            go_wp2
            go_roundw
            case rel => exact ⟨k + 1, by omega, by go_num, by rw [HT.out, List.length_append, ← HJ.out]; go_num, by rw [HT.out, sumU_snoc, HS.out], HD.out _, below_drewN' HL.out _⟩
            case measure => simp [intOf]; omega
          · have HV : Hid (R.getD j (0, 0) = (f, l)) := by have := hat.2; rw [if_neg hf] at this; exact this
            have HT : Hid (filt st (rs.take (k + 1)) = filt st (rs.take k) ++ [(f, l)]) := by have := filt_ge hlt HX.out hl; rw [if_neg hf] at this; exact this
            clear hat
            go_wp2
            go_quiet ((first | (go_at_call 11; exact Calls.quiet_of_same (first11 (HD.out _) hjR HV.out)) | (go_at_call 12; exact Calls.quiet_of_same (last12 (HD.out _) hjR HV.out))))
            go_wp2
            go_roundw
            case rel => exact ⟨k + 1, by omega, by go_num, by rw [HT.out, List.length_append, ← HJ.out]; go_num, by rw [HT.out, sumU_snoc, HS.out], HD.out _, below_drewN' HL.out _⟩
            case measure => simp [intOf]; omega
      · have HK : Hid (filt st (rs.take k) = R) := by rw [List.take_of_length_le (by omega)]; exact HR.out.symm
        have hjR : (j : Int) = (R.length : Int) := by have := HJ.out; rw [HK.out] at this; omega
        have hsR : wrap64 s = wrap64 (sumU R) := by rw [HS.out, HK.out]
        have hq : ((j : Int) == (R.length : Int)) = true := by simpa using hjR
        clear hjR
        go_wp2_with (go_at_call 13; refine (n13 HE.out).mono ?_; rintro e wr ⟨rfl, rfl⟩)
        go_ret
        refine ⟨?_, HL.out⟩
        first | rfl | (simp [hsR]; done) | simp


/-- The empty slices. -/
theorem keeps_nil (st n seq : Int) (a1 a2 : Option Addr) (c1 c2 : Nat) (w : World) :
    Calls Try.prog 3 #[.int .u64 st, .slice a1 0 c1, .slice a2 0 c2, .int .i64 n, .int .u64 seq] w fun e w' => e = .returned (.bool true) ∧ Below w.heap.size w w' := by
  have H1 : Hid (Firsts w a1 []) := .inl rfl
  have H2 : Hid (Lasts w a2 []) := .inl rfl
  go_enter Try.func3, Try.ntmps3
  go_wp2_with fail
  refine (bytes5 _ _ _ _ _ _ _ _ _ _ (by omega) (by omega)).mono ?_
  rintro e w ⟨rfl, rfl⟩
  go_wp2_with fail
  refine (valid6_nil _ _ _ _ _ _ _).mono ?_
  rintro e w1 ⟨bv, rfl, hgood, hb1⟩
  cases bv
  · go_wp2
    go_ret
    exact ⟨rfl, hb1⟩
  · have HG : Hid (Good st n []) := hgood rfl
    clear hgood
    go_wp2_with fail
    refine (build7_nil _ _ _ _ _ _ _).mono ?_
    rintro e w2 ⟨rfl, hdel, hb2⟩
    go_wp2_with fail
    refine (settle8 _ _ _ _ _ _ _ hdel (by simp)).mono ?_
    rintro e w3 ⟨rfl, hdel3, hb3⟩
    have hb2' : Below w.heap.size w1 w2 := hb2.mono hb1.size
    have hb3' : Below w.heap.size w2 w3 := hb3.mono hb1.size
    have HL3 : Hid (Below w.heap.size w w3) := (hb1.trans hb2').trans hb3'
    obtain ⟨B, hB⟩ : ∃ B, B = w1.heap.size := ⟨_, rfl⟩
    rw [← hB] at hdel3
    rw [← hB]
    have e1 : setR st seq [] = [] := by unfold setR; split <;> rfl
    rw [setN_sum HG.out, e1] at hdel3
    have e2 : wrap64 (sumU []) = 0 := by simp [sumU, wrap64]
    rw [e2] at hdel3
    by_cases hs : st < seq
    · have hset : setS st seq = seq := by unfold setS; rw [if_pos hs]
      rw [hset] at hdel3
      have HD3 : Hid (Del w3 B B seq 0 []) := hdel3
      clear hdel3 hdel hb1 hb2 hb3 hb2' hb3' hset hB e1 e2
      go_wp2_with (first | (go_at_call 9; refine (settled9 HD3.out).mono ?_; rintro e w3 ⟨rfl, rfl⟩) | (go_at_call 10; refine (len10 HD3.out).mono ?_; rintro e w3 ⟨rfl, rfl⟩))
      refine wp_loop_rounds 1 ?_
      rw [rounds_succ]
      go_wp2_with (go_at_call 13; refine (n13 HD3.out).mono ?_; rintro e w3 ⟨rfl, rfl⟩)
      go_ret
      exact ⟨rfl, HL3.out⟩
    · have hset : setS st seq = st := by unfold setS; rw [if_neg hs]
      rw [hset] at hdel3
      have HD3 : Hid (Del w3 B B st 0 []) := hdel3
      clear hdel3 hdel hb1 hb2 hb3 hb2' hb3' hset hB e1 e2
      go_wp2_with (first | (go_at_call 9; refine (settled9 HD3.out).mono ?_; rintro e w3 ⟨rfl, rfl⟩) | (go_at_call 10; refine (len10 HD3.out).mono ?_; rintro e w3 ⟨rfl, rfl⟩))
      refine wp_loop_rounds 1 ?_
      rw [rounds_succ]
      go_wp2_with (go_at_call 13; refine (n13 HD3.out).mono ?_; rintro e w3 ⟨rfl, rfl⟩)
      go_ret
      exact ⟨rfl, HL3.out⟩

end Go.Proofs.Qxb6627775a
