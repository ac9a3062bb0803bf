/-
  THE WALK OF FnEncodeBCDDigitsInjectiveAndValid, AND ITS PLAIN LAW.
-/
import Derived.Test.Qxb6627853aCut
namespace Go.Proofs.Qxb6627853a
open Go.RowKit

/-! ### The plain law -/
def AllDig (s : ByteArray) : Prop := ∀ i, i < s.size → 48 ≤ bt s i ∧ bt s i ≤ 57
def Same (m1 m2 : Nat) (a b : ByteArray) : Prop := m1 = m2 ∧ ∀ j, j < m1 → octet a a.size j = octet b b.size j

theorem same_sizes {a b : ByteArray} (hb : AllDig b) {m : Nat} (h1 : m = (a.size + 1) / 2) (h2 : m = (b.size + 1) / 2) (hj : ∀ j, j < m → octet a a.size j = octet b b.size j) (h : a.size < b.size) : False := by
  have ha : a.size = 2 * (m - 1) + 1 := by omega
  have hbb : b.size = 2 * (m - 1) + 2 := by omega
  have e := hj (m - 1) (by omega)
  have e1 := octet_high a (m - 1) (by omega)
  have e2 := octet_high b (m - 1) (by omega)
  rw [e, e2] at e1
  unfold nibv at e1
  rw [if_pos (by omega), if_neg (by omega)] at e1
  have := hb (2 * (m - 1) + 1) (by omega)
  omega

theorem bt_eq {a b : ByteArray} (hs : a.size = b.size) (h : ∀ i, i < a.size → bt a i = bt b i) : a = b := by
  apply ByteArray.ext_getElem hs
  intro i h1 h2
  have := h i h1
  unfold bt at this
  rw [dif_pos h1, dif_pos h2] at this
  apply UInt8.toNat_inj.1
  omega

theorem same_iff {a b : ByteArray} {m1 m2 : Nat} (ha : AllDig a) (hb : AllDig b) (h1 : m1 = (a.size + 1) / 2) (h2 : m2 = (b.size + 1) / 2) : Same m1 m2 a b ↔ a = b := by
  constructor
  · rintro ⟨rfl, hj⟩
    have hs : a.size = b.size := by
      rcases Nat.lt_trichotomy a.size b.size with h | h | h
      · exact absurd (same_sizes hb h1 h2 hj h) id
      · exact h
      · exact absurd (same_sizes ha h2 h1 (fun j hjm => (hj j hjm).symm) h) id
    refine bt_eq hs (fun i hi => ?_)
    have hai := ha i hi
    have hbi := hb i (by omega)
    have key : nibv a i = nibv b i := by
      rcases Nat.mod_two_eq_zero_or_one i with he | he
      · obtain ⟨j, rfl⟩ : ∃ j, i = 2 * j := ⟨i / 2, by omega⟩
        rw [← octet_low a j hi, ← octet_low b j (by omega), hj j (by omega)]
      · obtain ⟨j, rfl⟩ : ∃ j, i = 2 * j + 1 := ⟨i / 2, by omega⟩
        rw [← octet_high a j (by omega), ← octet_high b j (by omega), hj j (by omega)]
    unfold nibv at key
    rw [if_pos hi, if_pos (by omega)] at key
    omega
  · rintro rfl
    exact ⟨by omega, fun _ _ => rfl⟩

theorem toList_inj {a b : ByteArray} (h : a.toList = b.toList) : a = b := by
  rw [ByteArray.toList_eq, ByteArray.toList_eq] at h
  cases a; cases b
  simp_all

/-! ### The walks -/
/-- What zzAllDigits answers. -/
def SaysD (s : ByteArray) (w : World) (e : Ending) (w' : World) : Prop := ∃ bv : Bool, e = .returned (.bool bv) ∧ (bv = true → AllDig s) ∧ w' = w

set_option maxHeartbeats 400000 in
theorem digits10 (s : ByteArray) (w : World) (h : s.size ≤ 1048576) : Calls Try.prog 10 #[.string s] w (SaysD s w) := by
  go_enter Try.func10, Try.ntmps10
  go_wp2
  go_loop [3] (fun i => ∃ k : Nat, k ≤ s.size ∧ i = .int .i64 k ∧ Hid (∀ t, t < k → 48 ≤ bt s t ∧ bt s t ≤ 57)) (fun i => s.size - (intOf i).toNat)
  case atStart => exact ⟨0, Nat.zero_le _, rfl, fun t ht => absurd ht (by omega)⟩
  case round =>
    obtain ⟨k, hk, rfl, HK⟩ := hrel
    by_cases hlt : k < s.size
    · have hl0 : (k : Int) < (s.size : Int) := by omega
      obtain ⟨d, hd⟩ : ∃ d, d = bt s k := ⟨_, rfl⟩
      have hgb2 : ∀ (h : k < s.size), ((s[k]'h).toNat : Int) = d := fun h => by rw [hd]; exact get_bt s k h
      have HD : Hid (d = bt s k) := hd
      clear hd
      by_cases h1 : d < 48
      · go_wp2
        go_ret
        exact ⟨_, rfl, fun h => by simp at h, rfl⟩
      · by_cases h2 : 57 < d
        · go_wp2
          go_ret
          exact ⟨_, rfl, fun h => by simp at h, rfl⟩
        · go_wp2
          go_round
          case rel =>
            refine ⟨k + 1, by omega, by go_num, fun t ht => ?_⟩
            by_cases e : t < k
            · exact HK.out t e
            · obtain rfl : t = k := by omega
              rw [← HD.out]
              omega
          case measure => simp [intOf]; omega
    · go_wp2
      go_ret
      exact ⟨_, rfl, fun _ t ht => HK.out t (by omega), rfl⟩

set_option maxHeartbeats 1000000 in
theorem valid11 {g m : Nat} {s : ByteArray} {w : World} (h : Row w g m s) (hs : s.size ≤ 1048576) (hd : AllDig s) :
    Calls Try.prog 11 #[.slice (some ⟨g, 0, none⟩) m m, .int .i64 s.size] w fun e w' => e = .returned (.bool true) ∧ w' = w := by
  have q1 : ((m : Int) != ((s.size : Int) + 1) / 2) = false := by have := h.1; simp; omega
  have H : Hid (Row w g m s) := h
  have HD : Hid (AllDig s) := hd
  clear h hd
  go_enter Try.func11, Try.ntmps11
  go_wp2_with fail
  refine (halves7 _ _ (by omega) (by omega)).mono ?_
  rintro e w ⟨rfl, rfl⟩
  go_wp2_with fail
  go_loop [5] (fun i => ∃ j : Nat, j ≤ s.size ∧ i = .int .i64 j) (fun i => s.size - (intOf i).toNat)
  case atStart => exact ⟨0, Nat.zero_le _, rfl⟩
  case round =>
    obtain ⟨j, hj, rfl⟩ := hrel
    by_cases hlt : j < s.size
    · obtain ⟨v, hv⟩ : ∃ v, v = nibv s j := ⟨_, rfl⟩
      have hv9 : v ≤ 9 := by
        have := HD.out j hlt
        rw [hv]; unfold nibv; rw [if_pos hlt]; omega
      have C1 := nib8 (i := j) H.out hs (.inl hlt)
      rw [← hv] at C1
      have HC1 : Hid (Calls Try.prog 8 #[.slice (some ⟨g, 0, none⟩) m m, .int .i64 j] w fun e w' => e = .returned (.int .u8 v) ∧ w' = w) := C1
      clear C1 hv
      go_wp2_with fail
      refine HC1.out.mono ?_
      rintro e w ⟨rfl, rfl⟩
      go_wp2
      go_round
      case rel => exact ⟨j + 1, by omega, by go_num⟩
      case measure => simp [intOf]; omega
    · rcases Nat.mod_two_eq_zero_or_one s.size with hp1 | hp1
      · have t1 : ((s.size : Int) % 2 == 1) = false := by simp; omega
        go_wp2
        go_ret
        exact ⟨rfl, rfl⟩
      · have t1 : ((s.size : Int) % 2 == 1) = true := by simp; omega
        have C0 := nib8 (i := s.size) H.out hs (.inr ⟨rfl, hp1⟩)
        rw [nibv_end s _ rfl] at C0
        have HC0 : Hid (Calls Try.prog 8 #[.slice (some ⟨g, 0, none⟩) m m, .int .i64 s.size] w fun e w' => e = .returned (.int .u8 15) ∧ w' = w) := C0
        clear C0
        go_wp2_with fail
        refine HC0.out.mono ?_
        rintro e w ⟨rfl, rfl⟩
        go_wp2
        go_ret
        exact ⟨rfl, rfl⟩

/-- What zzSameBytes answers. -/
def Tells (m1 m2 : Nat) (a b : ByteArray) (w : World) (e : Ending) (w' : World) : Prop := ∃ bv : Bool, e = .returned (.bool bv) ∧ (bv = true ↔ Same m1 m2 a b) ∧ Below w.heap.size w w'

set_option maxHeartbeats 1000000 in
theorem same12 {g1 m1 g2 m2 : Nat} {a b : ByteArray} {w : World} (h1 : Row w g1 m1 a) (h2 : Row w g2 m2 b) (ha : a.size ≤ 1048576) (hb : b.size ≤ 1048576) :
    Calls Try.prog 12 #[.slice (some ⟨g1, 0, none⟩) m1 m1, .slice (some ⟨g2, 0, none⟩) m2 m2] w (Tells m1 m2 a b w) := by
  have l1 : m1 ≤ 524288 := by have := h1.1; omega
  have l2 : m2 ≤ 524288 := by have := h2.1; omega
  by_cases hne : m1 = m2
  · subst hne
    have H1 : Hid (Row w g1 m1 a) := h1
    have H2 : Hid (Row w g2 m1 b) := h2
    clear h1 h2
    go_enter Try.func12, Try.ntmps12
    go_wp2
    go_loopw [5] (fun i wr => ∃ k : Nat, k ≤ m1 ∧ i = .int .i64 k ∧ Hid (∀ j, j < k → octet a a.size j = octet b b.size j) ∧ Row wr g1 m1 a ∧ Row wr g2 m1 b ∧ Below w.heap.size w wr) (fun i _ => m1 - (intOf i).toNat)
    case atStart => exact ⟨0, Nat.zero_le _, rfl, fun t ht => absurd ht (by omega), H1.out, H2.out, Below.refl _ _⟩
    case round =>
      obtain ⟨k, hk, rfl, HK, hr1, hr2, hbel⟩ := hrel
      have R1 : Hid (Row wr g1 m1 a) := hr1
      have R2 : Hid (Row wr g2 m1 b) := hr2
      have HB : Hid (Below w.heap.size w wr) := hbel
      clear hr1 hr2 hbel
      by_cases hlt : k < m1
      · have hl0 : (k : Int) < (m1 : Int) := by omega
        obtain ⟨c1, _⟩ := bcell R1.out.2 k hlt
        obtain ⟨c2, _⟩ := bcell R2.out.2 k hlt
        obtain ⟨x, hx⟩ : ∃ x, x = octet a a.size k := ⟨_, rfl⟩
        obtain ⟨y, hy⟩ : ∃ y, y = octet b b.size k := ⟨_, rfl⟩
        rw [← hx] at c1
        rw [← hy] at c2
        have HX : Hid (x = octet a a.size k) := hx
        have HY : Hid (y = octet b b.size k) := hy
        clear hx hy
        by_cases hxy : x = y
        · have hn : (x != y) = false := by simpa using hxy
          have HXY : Hid (x = y) := hxy
          clear hxy
          go_wp2
          go_quiet (fail)
          go_wp2
          go_roundw
          case rel =>
            refine ⟨k + 1, by omega, by go_num, fun t ht => ?_, R1.out.drewN _, R2.out.drewN _, below_drewN' HB.out _⟩
            by_cases e : t < k
            · exact HK.out t e
            · obtain rfl : t = k := by omega
              rw [← HX.out, ← HY.out, HXY.out]
          case measure => simp [intOf]; omega
        · have hn : (x != y) = true := by simpa using hxy
          have HXY : Hid (¬ x = y) := hxy
          clear hxy
          go_wp2
          go_quiet (fail)
          go_wp2
          go_ret
          refine ⟨_, rfl, ⟨fun h => by simp at h, fun h => absurd (h.2 k hlt) (by rw [← HX.out, ← HY.out]; exact HXY.out)⟩, below_drewN' HB.out _⟩
      · go_wp2
        go_ret
        exact ⟨_, rfl, ⟨fun _ => ⟨rfl, fun j hj => HK.out j (by omega)⟩, fun _ => rfl⟩, HB.out⟩
  · have hn : ((m1 : Int) != (m2 : Int)) = true := by simp; omega
    go_enter Try.func12, Try.ntmps12
    go_wp2
    go_ret
    exact ⟨_, rfl, ⟨fun h => by simp at h, fun h => absurd h.1 hne⟩, Below.refl _ _⟩

theorem bytes9 (a b : ByteArray) (w : World) (h : a.size + b.size ≤ 1048576) : Calls Try.prog 9 #[.string a, .string b] w fun e w' => e = .returned (.bool true) ∧ w' = w := by
  go_enter Try.func9, Try.ntmps9
  go_wp2
  go_ret
  exact ⟨rfl, rfl⟩
theorem bytes9_no (a b : ByteArray) (w : World) (h : 1048576 < a.size + b.size) (hm : a.size ≤ maxLen) (hn : b.size ≤ maxLen) : Calls Try.prog 9 #[.string a, .string b] w fun e w' => e = .returned (.bool false) ∧ w' = w := by
  unfold maxLen at hm hn
  go_enter Try.func9, Try.ntmps9
  go_wp2
  all_goals
    go_ret
    exact ⟨rfl, rfl⟩

theorem inj_long (a b : ByteArray) (w : World) (h : 1048576 < a.size + b.size) (hm : a.size ≤ maxLen) (hn : b.size ≤ maxLen) : Calls Try.prog 4 #[.string a, .string b] w fun e w' => e = .returned (.bool true) ∧ Below w.heap.size w w' := by
  go_enter Try.func4, Try.ntmps4
  go_wp2_with fail
  refine (bytes9_no _ _ _ h hm hn).mono ?_
  rintro e w ⟨rfl, rfl⟩
  go_wp2
  go_ret
  exact ⟨rfl, Below.refl _ _⟩

set_option maxHeartbeats 1000000 in
theorem inj_in (a b : ByteArray) (w : World) (h : a.size + b.size ≤ 1048576) : Calls Try.prog 4 #[.string a, .string b] w fun e w' => e = .returned (.bool true) ∧ Below w.heap.size w w' := by
  obtain ⟨m1, hm1⟩ : ∃ m, m = (a.size + 1) / 2 := ⟨_, rfl⟩
  obtain ⟨m2, hm2⟩ : ∃ m, m = (b.size + 1) / 2 := ⟨_, rfl⟩
  have HM1 : Hid (m1 = (a.size + 1) / 2) := hm1
  have HM2 : Hid (m2 = (b.size + 1) / 2) := hm2
  clear hm1 hm2
  go_enter Try.func4, Try.ntmps4
  go_wp2_with fail
  refine (bytes9 _ _ _ h).mono ?_
  rintro e w ⟨rfl, rfl⟩
  go_wp2_with fail
  refine (digits10 a _ (by omega)).mono ?_
  rintro e w ⟨bv, rfl, hda, rfl⟩
  cases bv
  · go_wp2
    go_ret
    exact ⟨rfl, Below.refl _ _⟩
  · have HDA : Hid (AllDig a) := hda rfl
    clear hda
    go_wp2_with fail
    refine (digits10 b _ (by omega)).mono ?_
    rintro e w ⟨bv, rfl, hdb, rfl⟩
    cases bv
    · go_wp2
      go_ret
      exact ⟨rfl, Below.refl _ _⟩
    · have HDB : Hid (AllDig b) := hdb rfl
      clear hdb
      go_wp2_with fail
      refine (enc6 a m1 _ (by omega) HM1.out).mono ?_
      rintro e w1 ⟨rfl, hr1, hb1⟩
      have R1 : Hid (Row w1 w.heap.size m1 a) := ⟨HM1.out, hr1⟩
      have B1 : Hid (Below w.heap.size w w1) := hb1
      clear hr1 hb1
      go_wp2_with fail
      refine (enc6 b m2 _ (by omega) HM2.out).mono ?_
      rintro e w2 ⟨rfl, hr2, hb2⟩
      have R1' : Hid (Row w2 w.heap.size m1 a) := R1.out.keep hb2
      have R2 : Hid (Row w2 w1.heap.size m2 b) := ⟨HM2.out, hr2⟩
      have B2 : Hid (Below w.heap.size w w2) := B1.out.trans (hb2.mono B1.out.size)
      clear hr2 hb2 R1 B1
      go_wp2_with fail
      refine (valid11 R1'.out (by omega) HDA.out).mono ?_
      rintro e w2 ⟨rfl, rfl⟩
      go_wp2_with fail
      refine (valid11 R2.out (by omega) HDB.out).mono ?_
      rintro e w2 ⟨rfl, rfl⟩
      go_wp2_with fail
      refine (same12 R1'.out R2.out (by omega) (by omega)).mono ?_
      rintro e w3 ⟨bv, rfl, hiff, hb3⟩
      have hbv : bv = (a.toList == b.toList) := by
        rw [same_iff HDA.out HDB.out HM1.out HM2.out] at hiff
        rw [Bool.eq_iff_iff, hiff]
        simp only [beq_iff_eq]
        exact ⟨fun h => by rw [h], fun h => toList_inj h⟩
      have B3 : Hid (Below w.heap.size w w3) := B2.out.trans (hb3.mono B2.out.size)
      clear hiff hb3
      subst hbv
      go_wp2
      go_ret
      refine ⟨?_, B3.out⟩
      first | rfl | (simp; done)

end Go.Proofs.Qxb6627853a
