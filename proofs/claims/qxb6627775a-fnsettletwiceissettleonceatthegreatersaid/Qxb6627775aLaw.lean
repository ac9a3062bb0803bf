/-
  THE PLAIN LAW: what Settle leaves is what lies at or above the floor; the count is what the runs hold.
-/
import Derived.Test.Qxb6627775aValid
namespace Go.Proofs.Qxb6627775a
open Go.RowKit

def clip (fl : Int) (r : Int × Int) : Option (Int × Int) := if r.2 < fl then none else some (if r.1 < fl then fl else r.1, r.2)
/-- What lies at or above fl. -/
def filt (fl : Int) (rs : List (Int × Int)) : List (Int × Int) := rs.filterMap (clip fl)

/-- Runs in order from lo on. -/
def Ch : Int → List (Int × Int) → Prop
  | _, [] => True
  | lo, (f, l) :: t => lo ≤ f ∧ f ≤ l ∧ Ch (l + 1) t

theorem ch_of_good : ∀ (rs : List (Int × Int)) (st : Int), GoodTo st rs rs.length → Ch st rs
  | [], _, _ => trivial
  | (f, l) :: t, st, h => by
    have h0 := h 0 (by simp)
    refine ⟨h0.2.1 rfl, h0.1, ch_of_good t (l + 1) ?_⟩
    intro j hj
    have hj1 := h (j + 1) (by simpa using hj)
    simp only [List.getD_cons_succ] at hj1
    refine ⟨hj1.1, fun e => ?_, fun i hi => ?_⟩
    · subst e
      have := hj1.2.2 0 rfl
      simp only [List.getD_cons_zero] at this
      omega
    · subst hi
      have := hj1.2.2 (i + 1) rfl
      simpa only [List.getD_cons_succ] using this

theorem filt_all : ∀ (rs : List (Int × Int)) (lo fl : Int), Ch lo rs → fl ≤ lo → filt fl rs = rs
  | [], _, _, _, _ => rfl
  | (f, l) :: t, lo, fl, h, hle => by
    obtain ⟨h1, h2, h3⟩ := h
    have e : clip fl (f, l) = some (f, l) := by
      unfold clip
      rw [if_neg (by simp only; omega), if_neg (by simp only; omega)]
    have := filt_all t (l + 1) fl h3 (by omega)
    unfold filt at *
    rw [List.filterMap_cons, e, this]

theorem settleR_filt : ∀ (rs : List (Int × Int)) (lo seq : Int), Ch lo rs → settleR seq rs = filt seq rs
  | [], _, _, _ => rfl
  | (f, l) :: t, lo, seq, h => by
    obtain ⟨_, _, h3⟩ := h
    by_cases hl : l < seq
    · rw [settleR_cons_lt hl, settleR_filt t (l + 1) seq h3]
      unfold filt
      rw [List.filterMap_cons]
      simp [clip, hl]
    · have ht := filt_all t (l + 1) seq h3 (by omega)
      unfold filt at *
      rw [List.filterMap_cons, ht]
      by_cases hf : f < seq
      · rw [settleR_cons_cut hl hf]; simp [clip, hl, hf]
      · rw [settleR_cons_all hl hf]; simp [clip, hl, hf]

theorem setR_filt {st n seq : Int} {rs : List (Int × Int)} (h : Good st n rs) : setR st seq rs = filt (setS st seq) rs := by
  have hc := ch_of_good rs st h.1
  unfold setR setS
  by_cases hs : st < seq
  · rw [if_pos hs, if_pos hs]; exact settleR_filt rs st seq hc
  · rw [if_neg hs, if_neg hs]; exact (filt_all rs st st hc (Int.le_refl _)).symm

/-- The numbers that the runs hold, counted. -/
def sumZ : List (Int × Int) → Int
  | [] => 0
  | (f, l) :: t => (l - f + 1) + sumZ t

theorem wrap_sum (s c z f l : Int) (hc : c = cntU f l) : wrap64 (IntKind.u64.wrap (s + c) + z) = wrap64 (s + (l - f + 1 + z)) := by
  subst hc
  simp only [cntU, IntKind.wrap_u64, wrap64]
  omega

theorem sumU_from : ∀ (rs : List (Int × Int)) (s : Int), wrap64 (rs.foldl (fun s r => IntKind.u64.wrap (s + cntU r.1 r.2)) s) = wrap64 (s + sumZ rs)
  | [], s => by simp [sumZ]
  | (f, l) :: t, s => by
    rw [List.foldl_cons, sumU_from t, wrap_sum s _ (sumZ t) f l rfl]
    rfl

theorem sumU_sumZ (rs : List (Int × Int)) : wrap64 (sumU rs) = wrap64 (sumZ rs) := by
  have := sumU_from rs 0
  simpa [sumU] using this

theorem wrap_drop (x f l : Int) : wrap64 (wrap64 x - wrap64 (IntKind.u64.wrap (IntKind.u64.wrap (l - f) + 1))) = wrap64 (x - (l - f + 1)) := by
  simp only [IntKind.wrap_u64, wrap64]
  omega
theorem wrap_cut (x f seq : Int) : wrap64 (wrap64 x - wrap64 (IntKind.u64.wrap (seq - f))) = wrap64 (x - (seq - f)) := by
  simp only [IntKind.wrap_u64, wrap64]
  omega

theorem settleN_sum : ∀ (rs : List (Int × Int)) (x seq : Int), settleN seq (wrap64 x) rs = wrap64 (x - sumZ rs + sumZ (settleR seq rs))
  | [], x, seq => by simp [settleN, settleR, sumZ]
  | (f, l) :: t, x, seq => by
    by_cases hl : l < seq
    · rw [settleN_cons_lt hl, settleR_cons_lt hl, wrap_drop, settleN_sum t]
      simp only [sumZ]
      congr 1
      omega
    · by_cases hf : f < seq
      · rw [settleN_cons_cut hl hf, settleR_cons_cut hl hf, wrap_cut]
        simp only [sumZ]
        congr 1
        omega
      · rw [settleN_cons_all hl hf, settleR_cons_all hl hf]
        congr 1
        omega

theorem setN_sum {st n seq : Int} {rs : List (Int × Int)} (h : Good st n rs) : setN st seq n rs = wrap64 (sumU (setR st seq rs)) := by
  rw [h.2]
  unfold setN setR
  by_cases hs : st < seq
  · rw [if_pos hs, if_pos hs, sumU_sumZ, sumU_sumZ, settleN_sum]
    congr 1
    omega
  · rw [if_neg hs, if_neg hs]

/-! ### What a round of the law's own loop does -/
theorem filt_lt {fl f l : Int} {rs : List (Int × Int)} {k : Nat} (hk : k < rs.length) (hx : rs.getD k (0, 0) = (f, l)) (h : l < fl) : filt fl (rs.take (k + 1)) = filt fl (rs.take k) := by
  rw [take_snoc rs k hk, hx]
  simp [filt, List.filterMap_append, clip, h]
theorem filt_ge {fl f l : Int} {rs : List (Int × Int)} {k : Nat} (hk : k < rs.length) (hx : rs.getD k (0, 0) = (f, l)) (h : ¬ l < fl) : filt fl (rs.take (k + 1)) = filt fl (rs.take k) ++ [(if f < fl then fl else f, l)] := by
  rw [take_snoc rs k hk, hx]
  simp [filt, List.filterMap_append, clip, h]
theorem filt_at {fl f l : Int} {rs : List (Int × Int)} {k : Nat} (hk : k < rs.length) (hx : rs.getD k (0, 0) = (f, l)) (h : ¬ l < fl) :
    (filt fl (rs.take k)).length < (filt fl rs).length ∧ (filt fl rs).getD (filt fl (rs.take k)).length (0, 0) = (if f < fl then fl else f, l) := by
  have e : filt fl rs = filt fl (rs.take k) ++ (if f < fl then fl else f, l) :: filt fl (rs.drop (k + 1)) := by
    conv => lhs; rw [← List.take_append_drop (k + 1) rs]
    have e1 : filt fl (rs.take (k + 1) ++ rs.drop (k + 1)) = filt fl (rs.take (k + 1)) ++ filt fl (rs.drop (k + 1)) := List.filterMap_append
    rw [e1, filt_ge hk hx h]
    simp
  rw [e]
  refine ⟨by simp, ?_⟩
  simp [List.getD]

theorem filt_length_le (fl : Int) (rs : List (Int × Int)) : (filt fl rs).length ≤ rs.length := List.length_filterMap_le _ _

end Go.Proofs.Qxb6627775a
