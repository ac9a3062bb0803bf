/-
  THE PLAIN LAW OF SETTLING TWICE.
-/
import Derived.Test.Qxb6627775aLaw
namespace Go.Proofs.Qxb6627775a
open Go.RowKit

theorem setS_le (st seq : Int) : st ≤ setS st seq := by unfold setS; split <;> omega

theorem setR_ch {st seq : Int} {rs : List (Int × Int)} (hc : Ch st rs) : setR st seq rs = filt (setS st seq) rs := by
  unfold setR setS
  by_cases hs : st < seq
  · rw [if_pos hs, if_pos hs]; exact settleR_filt rs st seq hc
  · rw [if_neg hs, if_neg hs]; exact (filt_all rs st st hc (Int.le_refl _)).symm

theorem setN_ch {st n seq : Int} {rs : List (Int × Int)} (hn : n = wrap64 (sumU rs)) : setN st seq n rs = wrap64 (sumU (setR st seq rs)) := by
  rw [hn]
  unfold setN setR
  by_cases hs : st < seq
  · rw [if_pos hs, if_pos hs, sumU_sumZ, sumU_sumZ, settleN_sum]
    congr 1
    omega
  · rw [if_neg hs, if_neg hs]

theorem ch_filt : ∀ (rs : List (Int × Int)) (lo fl : Int), Ch lo rs → Ch fl (filt fl rs)
  | [], _, _, _ => trivial
  | (f, l) :: t, lo, fl, h => by
    obtain ⟨h1, h2, h3⟩ := h
    unfold filt
    rw [List.filterMap_cons]
    by_cases hl : l < fl
    · simp only [clip, if_pos hl]
      exact ch_filt t (l + 1) fl h3
    · have ht := filt_all t (l + 1) fl h3 (by omega)
      unfold filt at ht
      simp only [clip, if_neg hl]
      by_cases hf : f < fl
      · simp only [if_pos hf]
        exact ⟨Int.le_refl _, by omega, by rw [ht]; exact h3⟩
      · simp only [if_neg hf]
        exact ⟨by omega, h2, by rw [ht]; exact h3⟩

theorem filt_filt (f1 f2 : Int) (h : f1 ≤ f2) : ∀ rs : List (Int × Int), filt f2 (filt f1 rs) = filt f2 rs
  | [] => rfl
  | (f, l) :: t => by
    have ih := filt_filt f1 f2 h t
    unfold filt at *
    rw [List.filterMap_cons, List.filterMap_cons]
    by_cases hl : l < f1
    · have hl2 : l < f2 := by omega
      simp only [clip, if_pos hl, if_pos hl2]
      exact ih
    · simp only [clip, if_neg hl]
      rw [List.filterMap_cons]
      by_cases hl2 : l < f2
      · simp only [clip, if_pos hl2]
        exact ih
      · simp only [clip, if_neg hl2]
        by_cases hf : f < f1
        · have hf2 : f < f2 := by omega
          simp only [if_pos hf, if_pos hf2]
          by_cases e : f1 < f2
          · simp only [if_pos e]
            congr 1
          · have : f1 = f2 := by omega
            simp only [if_neg e]
            subst this
            congr 1
        · simp only [if_neg hf]
          congr 1

def maxI (a b : Int) : Int := if a < b then b else a

theorem setS_twice (st a b : Int) : setS (setS st a) b = setS st (maxI a b) := by
  unfold setS maxI
  by_cases h1 : st < a <;> by_cases h2 : a < b <;> by_cases h3 : st < b <;> simp [h1, h2, h3] <;> omega

theorem setR_twice {st a b : Int} {rs : List (Int × Int)} (hc : Ch st rs) : setR (setS st a) b (setR st a rs) = setR st (maxI a b) rs := by
  have h1 := setR_ch (seq := a) hc
  have hc1 : Ch (setS st a) (setR st a rs) := by rw [h1]; exact ch_filt rs st _ hc
  rw [setR_ch hc1, h1, filt_filt _ _ (setS_le _ _), setR_ch hc, setS_twice]

theorem setN_twice {st n a b : Int} {rs : List (Int × Int)} (hc : Ch st rs) (hn : n = wrap64 (sumU rs)) : setN (setS st a) b (setN st a n rs) (setR st a rs) = setN st (maxI a b) n rs := by
  rw [setN_ch (setN_ch hn), setR_twice hc, setN_ch hn]

theorem ch_get : ∀ (rs : List (Int × Int)) (lo : Int), Ch lo rs → ∀ k, k < rs.length → lo ≤ (rs.getD k (0, 0)).1 ∧ (rs.getD k (0, 0)).1 ≤ (rs.getD k (0, 0)).2
  | [], _, _, k, h => by simp at h
  | (f, l) :: t, lo, hc, 0, _ => ⟨hc.1, hc.2.1⟩
  | (f, l) :: t, lo, hc, k + 1, h => by
    have := ch_get t (l + 1) hc.2.2 k (by simpa using h)
    simp only [List.getD_cons_succ]
    exact ⟨by have := hc.1; have := hc.2.1; omega, this.2⟩

theorem setR_length {st seq : Int} {rs : List (Int × Int)} (hc : Ch st rs) : (setR st seq rs).length ≤ rs.length := by
  rw [setR_ch hc]; exact filt_length_le _ _

end Go.Proofs.Qxb6627775a
