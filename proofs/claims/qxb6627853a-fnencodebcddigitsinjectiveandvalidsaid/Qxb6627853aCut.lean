/-
  THE WALK OF FnEncodeBCDNibblesSurviveAnyCut.
-/
import Derived.Test.Qxb6627853aNib
namespace Go.Proofs.Qxb6627853a
open Go.RowKit

theorem get_bt (s : ByteArray) : ∀ (n : Nat) (h : n < s.size), ((s[n]'h).toNat : Int) = bt s n := fun n h => by unfold bt; rw [dif_pos h]

theorem bytes5 (s : ByteArray) (k : Int) (w : World) (h : s.size ≤ 1048576) : Calls Try.prog 5 #[.string s, .int .i64 k] w fun e w' => e = .returned (.bool true) ∧ w' = w := by
  go_enter Try.func5, Try.ntmps5
  go_wp2
  go_ret
  exact ⟨rfl, rfl⟩
theorem bytes5_no (s : ByteArray) (k : Int) (w : World) (h : 1048576 < s.size) (hm : s.size ≤ maxLen) : Calls Try.prog 5 #[.string s, .int .i64 k] w fun e w' => e = .returned (.bool false) ∧ w' = w := by
  unfold maxLen at hm
  go_enter Try.func5, Try.ntmps5
  go_wp2
  go_ret
  exact ⟨rfl, rfl⟩

theorem cut_long (s : ByteArray) (k : Int) (w : World) (h : 1048576 < s.size) (hm : s.size ≤ maxLen) : Calls Try.prog 3 #[.string s, .int .i64 k] w fun e w' => e = .returned (.bool true) ∧ Below w.heap.size w w' := by
  go_enter Try.func3, Try.ntmps3
  go_wp2_with fail
  refine (bytes5_no _ _ _ h hm).mono ?_
  rintro e w ⟨rfl, rfl⟩
  go_wp2
  go_ret
  exact ⟨rfl, Below.refl _ _⟩

theorem cut_neg (s : ByteArray) (k : Int) (w : World) (h : s.size ≤ 1048576) (hk : k < 0) : Calls Try.prog 3 #[.string s, .int .i64 k] w fun e w' => e = .returned (.bool true) ∧ Below w.heap.size w w' := by
  go_enter Try.func3, Try.ntmps3
  go_wp2_with fail
  refine (bytes5 _ _ _ h).mono ?_
  rintro e w ⟨rfl, rfl⟩
  go_wp2
  go_ret
  exact ⟨rfl, Below.refl _ _⟩

theorem cut_past (s : ByteArray) (k : Int) (w : World) (h : s.size ≤ 1048576) (hk : ¬ k < 0) (hk2 : (s.size : Int) < k) : Calls Try.prog 3 #[.string s, .int .i64 k] w fun e w' => e = .returned (.bool true) ∧ Below w.heap.size w w' := by
  go_enter Try.func3, Try.ntmps3
  go_wp2_with fail
  refine (bytes5 _ _ _ h).mono ?_
  rintro e w ⟨rfl, rfl⟩
  go_wp2
  go_ret
  exact ⟨rfl, Below.refl _ _⟩

theorem size_extract (s : ByteArray) (a b : Nat) (h : b ≤ s.size) : (s.extract a b).size = b - a := by simp [ByteArray.size_extract]; omega

theorem nibv_end (s : ByteArray) (i : Nat) (h : s.size = i) : nibv s i = 15 := by unfold nibv; rw [if_neg (by omega)]
theorem bt_extract (s : ByteArray) (a b i : Nat) (hb : b ≤ s.size) (h : a + i < b) : bt (s.extract a b) i = bt s (a + i) := by
  have h1 : i < (s.extract a b).size := by rw [size_extract _ _ _ hb]; omega
  have h2 : a + i < s.size := by omega
  unfold bt
  rw [dif_pos h1, dif_pos h2]
  congr 2
  exact ByteArray.getElem_extract h1
theorem nibv_pre (s p : ByteArray) (k j : Nat) (hk : k ≤ s.size) (hp : p = s.extract 0 k) (hps : p.size = k) (h : j < k) : nibv p j = nibv s j := by
  unfold nibv
  rw [if_pos (by omega), if_pos (by omega), hp, bt_extract s 0 k j hk (by omega)]
  simp
theorem nibv_suf (s q : ByteArray) (k j : Nat) (hq : q = s.extract k s.size) (hqs : q.size = s.size - k) (h : j < s.size - k) : nibv q j = nibv s (k + j) := by
  unfold nibv
  rw [if_pos (by omega), if_pos (by omega), hq, bt_extract s k s.size j (Nat.le_refl _) (by omega)]
theorem below_drewN' {B : Nat} {a w : World} (h : Below B a w) (n : Nat) : Below B a (w.drewN n) := ⟨h.os, h.tape, h.output, h.size, h.block⟩

set_option maxHeartbeats 4000000 in
theorem cut_in (s : ByteArray) (k : Nat) (w : World) (h : s.size ≤ 1048576) (hk : k ≤ s.size) : Calls Try.prog 3 #[.string s, .int .i64 k] w fun e w' => e = .returned (.bool true) ∧ Below w.heap.size w w' := by
  have hk0 : ¬ (k : Int) < 0 := by omega
  have hk1 : ¬ (s.size : Int) < (k : Int) := by omega
  obtain ⟨m1, hm1⟩ : ∃ m, m = (s.size + 1) / 2 := ⟨_, rfl⟩
  obtain ⟨m2, hm2⟩ : ∃ m, m = (k + 1) / 2 := ⟨_, rfl⟩
  obtain ⟨m3, hm3⟩ : ∃ m, m = (s.size - k + 1) / 2 := ⟨_, rfl⟩
  obtain ⟨p, hp⟩ : ∃ p, p = s.extract 0 k := ⟨_, rfl⟩
  obtain ⟨q, hq⟩ : ∃ q, q = s.extract k s.size := ⟨_, rfl⟩
  have hps : p.size = k := by rw [hp, size_extract _ _ _ hk]; omega
  have hqs : q.size = s.size - k := by rw [hq, size_extract _ _ _ (Nat.le_refl _)]
  have q1 : ((m1 : Int) != ((s.size : Int) + 1) / 2) = false := by simp; omega
  have q2 : ((m2 : Int) != ((k : Int) + 1) / 2) = false := by simp; omega
  have q3 : ((m3 : Int) != ((s.size : Int) - (k : Int) + 1) / 2) = false := by simp; omega
  have HM1 : Hid (m1 = (s.size + 1) / 2) := hm1
  have HM2 : Hid (m2 = (p.size + 1) / 2) := by show m2 = _; rw [hps]; exact hm2
  have HM3 : Hid (m3 = (q.size + 1) / 2) := by show m3 = _; rw [hqs]; exact hm3
  have HP : Hid (p = s.extract 0 k) := hp
  have HQ : Hid (q = s.extract k s.size) := hq
  have HPS : Hid (p.size = k) := hps
  have HQS : Hid (q.size = s.size - k) := hqs
  clear hm1 hm2 hm3 hp hq hps hqs
  go_enter Try.func3, Try.ntmps3
  go_wp2_with fail
  refine (bytes5 _ _ _ h).mono ?_
  rintro e w ⟨rfl, rfl⟩
  go_wp2_with fail
  refine (enc6 s m1 _ h HM1.out).mono ?_
  rintro e w1 ⟨rfl, hr1, hb1⟩
  have R1 : Hid (Row w1 w.heap.size m1 s) := ⟨HM1.out, hr1⟩
  have B1 : Hid (Below w.heap.size w w1) := hb1
  clear hr1 hb1
  go_wp2_with fail
  rw [← HP.out]
  refine (enc6 p m2 _ (by rw [HPS.out]; omega) HM2.out).mono ?_
  rintro e w2 ⟨rfl, hr2, hb2⟩
  have R1' : Hid (Row w2 w.heap.size m1 s) := R1.out.keep hb2
  have R2 : Hid (Row w2 w1.heap.size m2 p) := ⟨HM2.out, hr2⟩
  have B2 : Hid (Below w.heap.size w w2) := B1.out.trans (hb2.mono B1.out.size)
  clear hr2 hb2 R1
  go_wp2_with fail
  rw [← HQ.out]
  refine (enc6 q m3 _ (by rw [HQS.out]; omega) HM3.out).mono ?_
  rintro e w3 ⟨rfl, hr3, hb3⟩
  have R1 : Hid (Row w3 w.heap.size m1 s) := R1'.out.keep hb3
  have R2' : Hid (Row w3 w1.heap.size m2 p) := R2.out.keep hb3
  have R3 : Hid (Row w3 w2.heap.size m3 q) := ⟨HM3.out, hr3⟩
  have B3 : Hid (Below w.heap.size w w3) := B2.out.trans (hb3.mono B2.out.size)
  clear hr3 hb3 R1' R2
  go_wp2_with fail
  refine (halves7 _ _ (by omega) (by omega)).mono ?_
  rintro e w3 ⟨rfl, rfl⟩
  go_wp2_with fail
  refine (halves7 _ _ (by omega) (by omega)).mono ?_
  rintro e w3 ⟨rfl, rfl⟩
  go_wp2_with fail
  refine (halves7 _ _ (by omega) (by omega)).mono ?_
  rintro e w3 ⟨rfl, rfl⟩
  go_wp2_with fail
  go_loopw [9] (fun i wr => ∃ j : Nat, j ≤ s.size ∧ i = .int .i64 j ∧ Row wr w.heap.size m1 s ∧ Row wr w1.heap.size m2 p ∧ Row wr w2.heap.size m3 q ∧ Below w.heap.size w wr) (fun i _ => s.size - (intOf i).toNat)
  case atStart => exact ⟨0, Nat.zero_le _, rfl, R1.out, R2'.out, R3.out, B3.out⟩
  case round =>
    obtain ⟨j, hj, rfl, hr1, hr2, hr3, hbel⟩ := hrel
    clear R1 R2' R3 B3
    have R1 : Hid (∀ d, Row (wr.drewN d) w.heap.size m1 s) := fun _ => hr1
    have R0 : Hid (Row wr w.heap.size m1 s) := hr1
    have R2 : Hid (Row wr w1.heap.size m2 p) := hr2
    have R3 : Hid (Row wr w2.heap.size m3 q) := hr3
    have HB : Hid (Below w.heap.size w wr) := hbel
    clear hr1 hr2 hr3 hbel
    by_cases hlt : j < s.size
    · have hl0 : (j : Int) < (s.size : Int) := by omega
      have hgb := get_bt s
      have b0 := bt_nonneg s j
      have b1 := bt_le s j
      obtain ⟨d, hd⟩ : ∃ d, d = bt s j := ⟨_, rfl⟩
      have hgb2 : ∀ (h : j < s.size), ((s[j]'h).toNat : Int) = d := fun h => by rw [hd]; exact get_bt s j h
      rw [← hd] at b0 b1
      have hnv : nibv s j = d % 16 := by unfold nibv; rw [if_pos hlt, hd]
      have HN := nib8 (i := j) R0.out h (.inl hlt)
      have HC : Hid (∀ n, Calls Try.prog 8 #[.slice (some ⟨w.heap.size, 0, none⟩) m1 m1, .int .i64 j] (wr.drewN n) fun e w' => e = .returned (.int .u8 (d % 16)) ∧ w' = wr.drewN n) := fun n => by
        rw [← hnv]; exact nib8 (i := j) (R1.out n) h (.inl hlt)
      clear hgb HN hnv hd
      go_wp2
      go_quiet ((go_at_call 8; exact Calls.quiet_of_same (HC.out _)))
      go_wp2
      go_roundw
      case rel => exact ⟨j + 1, by omega, by go_num, R1.out _, R2.out.drewN _, R3.out.drewN _, below_drewN' HB.out _⟩
      case measure => simp [intOf]; omega
    · rcases Nat.mod_two_eq_zero_or_one s.size with hp1 | hp1
      · have t1 : ((s.size : Int) % 2 == 1) = false := by simp; omega
        go_wp2_with fail
        go_loop [10] (fun i => ∃ j : Nat, j ≤ k ∧ i = .int .i64 j) (fun i => k - (intOf i).toNat)
        case atStart => exact ⟨0, Nat.zero_le _, rfl⟩
        case round =>
          obtain ⟨j, hj, rfl⟩ := hrel
          by_cases hlt : j < k
          · have hl0 : (j : Int) < (k : Int) := by omega
            obtain ⟨v, hv⟩ : ∃ v, v = nibv s j := ⟨_, rfl⟩
            have hpv : nibv p j = v := by rw [hv]; exact nibv_pre s p k j hk HP.out HPS.out hlt
            have C1 := nib8 (i := j) R2.out (by rw [HPS.out]; omega) (.inl (by rw [HPS.out]; omega))
            have C2 := nib8 (i := j) R0.out h (.inl (by omega))
            rw [hpv] at C1
            rw [← hv] at C2
            have HC1 : Hid (Calls Try.prog 8 #[.slice (some ⟨w1.heap.size, 0, none⟩) m2 m2, .int .i64 j] wr fun e w' => e = .returned (.int .u8 v) ∧ w' = wr) := C1
            have HC2 : Hid (Calls Try.prog 8 #[.slice (some ⟨w.heap.size, 0, none⟩) m1 m1, .int .i64 j] wr fun e w' => e = .returned (.int .u8 v) ∧ w' = wr) := C2
            clear C1 C2 hv hpv
            go_wp2_with fail
            refine HC1.out.mono ?_
            rintro e wr ⟨rfl, rfl⟩
            go_wp2_with fail
            refine HC2.out.mono ?_
            rintro e wr ⟨rfl, rfl⟩
            go_wp2
            go_round
            case rel => exact ⟨j + 1, by omega, by go_num⟩
            case measure => simp [intOf]; omega
          · rcases Nat.mod_two_eq_zero_or_one k with hp2 | hp2
            · have t2 : ((k : Int) % 2 == 1) = false := by simp; omega
              go_wp2_with fail
              go_loop [11] (fun i => ∃ j : Nat, j ≤ s.size - k ∧ i = .int .i64 j) (fun i => s.size - k - (intOf i).toNat)
              case atStart => exact ⟨0, Nat.zero_le _, rfl⟩
              case round =>
                obtain ⟨j, hj, rfl⟩ := hrel
                by_cases hlt : j < s.size - k
                · have hl0 : (j : Int) < (s.size : Int) - (k : Int) := by omega
                  obtain ⟨v, hv⟩ : ∃ v, v = nibv s (k + j) := ⟨_, rfl⟩
                  have hpv : nibv q j = v := by rw [hv]; exact nibv_suf s q k j HQ.out HQS.out hlt
                  have C1 := nib8 (i := j) R3.out (by rw [HQS.out]; omega) (.inl (by rw [HQS.out]; omega))
                  have C2 := nib8 (i := k + j) R0.out h (.inl (by omega))
                  rw [hpv] at C1
                  rw [← hv, Int.natCast_add] at C2
                  have HC1 : Hid (Calls Try.prog 8 #[.slice (some ⟨w2.heap.size, 0, none⟩) m3 m3, .int .i64 j] wr fun e w' => e = .returned (.int .u8 v) ∧ w' = wr) := C1
                  have HC2 : Hid (Calls Try.prog 8 #[.slice (some ⟨w.heap.size, 0, none⟩) m1 m1, .int .i64 ((k : Int) + (j : Int))] wr fun e w' => e = .returned (.int .u8 v) ∧ w' = wr) := C2
                  clear C1 C2 hv hpv
                  go_wp2_with fail
                  refine HC1.out.mono ?_
                  rintro e wr ⟨rfl, rfl⟩
                  go_wp2_with fail
                  refine HC2.out.mono ?_
                  rintro e wr ⟨rfl, rfl⟩
                  go_wp2
                  go_round
                  case rel => exact ⟨j + 1, by omega, by go_num⟩
                  case measure => simp [intOf]; omega
                · rcases Nat.mod_two_eq_zero_or_one (s.size - k) with hp3 | hp3
                  · have t3 : (((s.size : Int) - (k : Int)) % 2 == 1) = false := by simp; omega
                    go_wp2
                    all_goals
                      go_ret
                      exact ⟨rfl, HB.out⟩
                  · have t3 : (((s.size : Int) - (k : Int)) % 2 == 1) = true := by simp; omega
                    have C3 := nib8 (i := s.size - k) R3.out (by rw [HQS.out]; omega) (.inr ⟨HQS.out.symm, hp3⟩)
                    rw [nibv_end q _ HQS.out, show ((s.size - k : Nat) : Int) = (s.size : Int) - (k : Int) by omega] at C3
                    have HC3 : Hid (Calls Try.prog 8 #[.slice (some ⟨w2.heap.size, 0, none⟩) m3 m3, .int .i64 ((s.size : Int) - (k : Int))] wr fun e w' => e = .returned (.int .u8 15) ∧ w' = wr) := C3
                    clear C3
                    go_wp2_with fail
                    all_goals
                      refine HC3.out.mono ?_
                      rintro e wr ⟨rfl, rfl⟩
                      go_wp2
                      go_ret
                      exact ⟨rfl, HB.out⟩
            · have t2 : ((k : Int) % 2 == 1) = true := by simp; omega
              have C3 := nib8 (i := k) R2.out (by rw [HPS.out]; omega) (.inr ⟨HPS.out.symm, hp2⟩)
              rw [nibv_end p _ HPS.out] at C3
              have HC3 : Hid (Calls Try.prog 8 #[.slice (some ⟨w1.heap.size, 0, none⟩) m2 m2, .int .i64 k] wr fun e w' => e = .returned (.int .u8 15) ∧ w' = wr) := C3
              clear C3
              go_wp2_with fail
              refine HC3.out.mono ?_
              rintro e wr ⟨rfl, rfl⟩
              go_wp2_with fail
              go_loop [11] (fun i => ∃ j : Nat, j ≤ s.size - k ∧ i = .int .i64 j) (fun i => s.size - k - (intOf i).toNat)
              case atStart => exact ⟨0, Nat.zero_le _, rfl⟩
              case round =>
                obtain ⟨j, hj, rfl⟩ := hrel
                by_cases hlt : j < s.size - k
                · have hl0 : (j : Int) < (s.size : Int) - (k : Int) := by omega
                  obtain ⟨v, hv⟩ : ∃ v, v = nibv s (k + j) := ⟨_, rfl⟩
                  have hpv : nibv q j = v := by rw [hv]; exact nibv_suf s q k j HQ.out HQS.out hlt
                  have C1 := nib8 (i := j) R3.out (by rw [HQS.out]; omega) (.inl (by rw [HQS.out]; omega))
                  have C2 := nib8 (i := k + j) R0.out h (.inl (by omega))
                  rw [hpv] at C1
                  rw [← hv, Int.natCast_add] at C2
                  have HC1 : Hid (Calls Try.prog 8 #[.slice (some ⟨w2.heap.size, 0, none⟩) m3 m3, .int .i64 j] wr fun e w' => e = .returned (.int .u8 v) ∧ w' = wr) := C1
                  have HC2 : Hid (Calls Try.prog 8 #[.slice (some ⟨w.heap.size, 0, none⟩) m1 m1, .int .i64 ((k : Int) + (j : Int))] wr fun e w' => e = .returned (.int .u8 v) ∧ w' = wr) := C2
                  clear C1 C2 hv hpv
                  go_wp2_with fail
                  refine HC1.out.mono ?_
                  rintro e wr ⟨rfl, rfl⟩
                  go_wp2_with fail
                  refine HC2.out.mono ?_
                  rintro e wr ⟨rfl, rfl⟩
                  go_wp2
                  go_round
                  case rel => exact ⟨j + 1, by omega, by go_num⟩
                  case measure => simp [intOf]; omega
                · rcases Nat.mod_two_eq_zero_or_one (s.size - k) with hp3 | hp3
                  · have t3 : (((s.size : Int) - (k : Int)) % 2 == 1) = false := by simp; omega
                    go_wp2
                    all_goals
                      go_ret
                      exact ⟨rfl, HB.out⟩
                  · have t3 : (((s.size : Int) - (k : Int)) % 2 == 1) = true := by simp; omega
                    have C3 := nib8 (i := s.size - k) R3.out (by rw [HQS.out]; omega) (.inr ⟨HQS.out.symm, hp3⟩)
                    rw [nibv_end q _ HQS.out, show ((s.size - k : Nat) : Int) = (s.size : Int) - (k : Int) by omega] at C3
                    have HC3 : Hid (Calls Try.prog 8 #[.slice (some ⟨w2.heap.size, 0, none⟩) m3 m3, .int .i64 ((s.size : Int) - (k : Int))] wr fun e w' => e = .returned (.int .u8 15) ∧ w' = wr) := C3
                    clear C3
                    go_wp2_with fail
                    all_goals
                      refine HC3.out.mono ?_
                      rintro e wr ⟨rfl, rfl⟩
                      go_wp2
                      go_ret
                      exact ⟨rfl, HB.out⟩
      · have t1 : ((s.size : Int) % 2 == 1) = true := by simp; omega
        have C0 := nib8 (i := s.size) R0.out h (.inr ⟨rfl, hp1⟩)
        rw [nibv_end s _ rfl] at C0
        have HC0 : Hid (Calls Try.prog 8 #[.slice (some ⟨w.heap.size, 0, none⟩) m1 m1, .int .i64 s.size] wr fun e w' => e = .returned (.int .u8 15) ∧ w' = wr) := C0
        clear C0
        go_wp2_with fail
        refine HC0.out.mono ?_
        rintro e wr ⟨rfl, rfl⟩
        go_wp2_with fail
        go_loop [10] (fun i => ∃ j : Nat, j ≤ k ∧ i = .int .i64 j) (fun i => k - (intOf i).toNat)
        case atStart => exact ⟨0, Nat.zero_le _, rfl⟩
        case round =>
          obtain ⟨j, hj, rfl⟩ := hrel
          by_cases hlt : j < k
          · have hl0 : (j : Int) < (k : Int) := by omega
            obtain ⟨v, hv⟩ : ∃ v, v = nibv s j := ⟨_, rfl⟩
            have hpv : nibv p j = v := by rw [hv]; exact nibv_pre s p k j hk HP.out HPS.out hlt
            have C1 := nib8 (i := j) R2.out (by rw [HPS.out]; omega) (.inl (by rw [HPS.out]; omega))
            have C2 := nib8 (i := j) R0.out h (.inl (by omega))
            rw [hpv] at C1
            rw [← hv] at C2
            have HC1 : Hid (Calls Try.prog 8 #[.slice (some ⟨w1.heap.size, 0, none⟩) m2 m2, .int .i64 j] wr fun e w' => e = .returned (.int .u8 v) ∧ w' = wr) := C1
            have HC2 : Hid (Calls Try.prog 8 #[.slice (some ⟨w.heap.size, 0, none⟩) m1 m1, .int .i64 j] wr fun e w' => e = .returned (.int .u8 v) ∧ w' = wr) := C2
            clear C1 C2 hv hpv
            go_wp2_with fail
            refine HC1.out.mono ?_
            rintro e wr ⟨rfl, rfl⟩
            go_wp2_with fail
            refine HC2.out.mono ?_
            rintro e wr ⟨rfl, rfl⟩
            go_wp2
            go_round
            case rel => exact ⟨j + 1, by omega, by go_num⟩
            case measure => simp [intOf]; omega
          · rcases Nat.mod_two_eq_zero_or_one k with hp2 | hp2
            · have t2 : ((k : Int) % 2 == 1) = false := by simp; omega
              go_wp2_with fail
              go_loop [11] (fun i => ∃ j : Nat, j ≤ s.size - k ∧ i = .int .i64 j) (fun i => s.size - k - (intOf i).toNat)
              case atStart => exact ⟨0, Nat.zero_le _, rfl⟩
              case round =>
                obtain ⟨j, hj, rfl⟩ := hrel
                by_cases hlt : j < s.size - k
                · have hl0 : (j : Int) < (s.size : Int) - (k : Int) := by omega
                  obtain ⟨v, hv⟩ : ∃ v, v = nibv s (k + j) := ⟨_, rfl⟩
                  have hpv : nibv q j = v := by rw [hv]; exact nibv_suf s q k j HQ.out HQS.out hlt
                  have C1 := nib8 (i := j) R3.out (by rw [HQS.out]; omega) (.inl (by rw [HQS.out]; omega))
                  have C2 := nib8 (i := k + j) R0.out h (.inl (by omega))
                  rw [hpv] at C1
                  rw [← hv, Int.natCast_add] at C2
                  have HC1 : Hid (Calls Try.prog 8 #[.slice (some ⟨w2.heap.size, 0, none⟩) m3 m3, .int .i64 j] wr fun e w' => e = .returned (.int .u8 v) ∧ w' = wr) := C1
                  have HC2 : Hid (Calls Try.prog 8 #[.slice (some ⟨w.heap.size, 0, none⟩) m1 m1, .int .i64 ((k : Int) + (j : Int))] wr fun e w' => e = .returned (.int .u8 v) ∧ w' = wr) := C2
                  clear C1 C2 hv hpv
                  go_wp2_with fail
                  refine HC1.out.mono ?_
                  rintro e wr ⟨rfl, rfl⟩
                  go_wp2_with fail
                  refine HC2.out.mono ?_
                  rintro e wr ⟨rfl, rfl⟩
                  go_wp2
                  go_round
                  case rel => exact ⟨j + 1, by omega, by go_num⟩
                  case measure => simp [intOf]; omega
                · rcases Nat.mod_two_eq_zero_or_one (s.size - k) with hp3 | hp3
                  · have t3 : (((s.size : Int) - (k : Int)) % 2 == 1) = false := by simp; omega
                    go_wp2
                    all_goals
                      go_ret
                      exact ⟨rfl, HB.out⟩
                  · have t3 : (((s.size : Int) - (k : Int)) % 2 == 1) = true := by simp; omega
                    have C3 := nib8 (i := s.size - k) R3.out (by rw [HQS.out]; omega) (.inr ⟨HQS.out.symm, hp3⟩)
                    rw [nibv_end q _ HQS.out, show ((s.size - k : Nat) : Int) = (s.size : Int) - (k : Int) by omega] at C3
                    have HC3 : Hid (Calls Try.prog 8 #[.slice (some ⟨w2.heap.size, 0, none⟩) m3 m3, .int .i64 ((s.size : Int) - (k : Int))] wr fun e w' => e = .returned (.int .u8 15) ∧ w' = wr) := C3
                    clear C3
                    go_wp2_with fail
                    all_goals
                      refine HC3.out.mono ?_
                      rintro e wr ⟨rfl, rfl⟩
                      go_wp2
                      go_ret
                      exact ⟨rfl, HB.out⟩
            · have t2 : ((k : Int) % 2 == 1) = true := by simp; omega
              have C3 := nib8 (i := k) R2.out (by rw [HPS.out]; omega) (.inr ⟨HPS.out.symm, hp2⟩)
              rw [nibv_end p _ HPS.out] at C3
              have HC3 : Hid (Calls Try.prog 8 #[.slice (some ⟨w1.heap.size, 0, none⟩) m2 m2, .int .i64 k] wr fun e w' => e = .returned (.int .u8 15) ∧ w' = wr) := C3
              clear C3
              go_wp2_with fail
              refine HC3.out.mono ?_
              rintro e wr ⟨rfl, rfl⟩
              go_wp2_with fail
              go_loop [11] (fun i => ∃ j : Nat, j ≤ s.size - k ∧ i = .int .i64 j) (fun i => s.size - k - (intOf i).toNat)
              case atStart => exact ⟨0, Nat.zero_le _, rfl⟩
              case round =>
                obtain ⟨j, hj, rfl⟩ := hrel
                by_cases hlt : j < s.size - k
                · have hl0 : (j : Int) < (s.size : Int) - (k : Int) := by omega
                  obtain ⟨v, hv⟩ : ∃ v, v = nibv s (k + j) := ⟨_, rfl⟩
                  have hpv : nibv q j = v := by rw [hv]; exact nibv_suf s q k j HQ.out HQS.out hlt
                  have C1 := nib8 (i := j) R3.out (by rw [HQS.out]; omega) (.inl (by rw [HQS.out]; omega))
                  have C2 := nib8 (i := k + j) R0.out h (.inl (by omega))
                  rw [hpv] at C1
                  rw [← hv, Int.natCast_add] at C2
                  have HC1 : Hid (Calls Try.prog 8 #[.slice (some ⟨w2.heap.size, 0, none⟩) m3 m3, .int .i64 j] wr fun e w' => e = .returned (.int .u8 v) ∧ w' = wr) := C1
                  have HC2 : Hid (Calls Try.prog 8 #[.slice (some ⟨w.heap.size, 0, none⟩) m1 m1, .int .i64 ((k : Int) + (j : Int))] wr fun e w' => e = .returned (.int .u8 v) ∧ w' = wr) := C2
                  clear C1 C2 hv hpv
                  go_wp2_with fail
                  refine HC1.out.mono ?_
                  rintro e wr ⟨rfl, rfl⟩
                  go_wp2_with fail
                  refine HC2.out.mono ?_
                  rintro e wr ⟨rfl, rfl⟩
                  go_wp2
                  go_round
                  case rel => exact ⟨j + 1, by omega, by go_num⟩
                  case measure => simp [intOf]; omega
                · rcases Nat.mod_two_eq_zero_or_one (s.size - k) with hp3 | hp3
                  · have t3 : (((s.size : Int) - (k : Int)) % 2 == 1) = false := by simp; omega
                    go_wp2
                    all_goals
                      go_ret
                      exact ⟨rfl, HB.out⟩
                  · have t3 : (((s.size : Int) - (k : Int)) % 2 == 1) = true := by simp; omega
                    have C3 := nib8 (i := s.size - k) R3.out (by rw [HQS.out]; omega) (.inr ⟨HQS.out.symm, hp3⟩)
                    rw [nibv_end q _ HQS.out, show ((s.size - k : Nat) : Int) = (s.size : Int) - (k : Int) by omega] at C3
                    have HC3 : Hid (Calls Try.prog 8 #[.slice (some ⟨w2.heap.size, 0, none⟩) m3 m3, .int .i64 ((s.size : Int) - (k : Int))] wr fun e w' => e = .returned (.int .u8 15) ∧ w' = wr) := C3
                    clear C3
                    go_wp2_with fail
                    all_goals
                      refine HC3.out.mono ?_
                      rintro e wr ⟨rfl, rfl⟩
                      go_wp2
                      go_ret
                      exact ⟨rfl, HB.out⟩

end Go.Proofs.Qxb6627853a
