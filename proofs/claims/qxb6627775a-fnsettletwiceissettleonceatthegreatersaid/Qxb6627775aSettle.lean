import Derived.Test.Qxb6627775aPlain
import Derived.Test.Qxb6627775aRows
import Derived.WalkKit
import Derived.WalkSpells
import Derived.WalkLawsBesides
import Derived.Deep.QuietTactic
import Derived.BigQuiet
import Derived.BigRegion
import Derived.RegionTactic
namespace Go.Proofs.Qxb6627775a
open Go.RowKit

/-! ### The facts that a walk wants of the block of a Delivered -/
theorem dcell {w : World} {b : Nat} {x y z : Value} (h : w.heap[b]? = some (.cells #[x, y, z] 39 (0, 0))) :
    w.cell? ⟨b, 0, none⟩ = some x ∧ w.cell? ⟨b, 1, none⟩ = some y ∧ w.cell? ⟨b, 2, none⟩ = some z ∧ w.frozen? ⟨b, 0, none⟩ = false ∧ w.frozen? ⟨b, 1, none⟩ = false ∧ w.frozen? ⟨b, 2, none⟩ = false :=
  ⟨by rw [cell_of_row w b 0 _ 39 (0, 0) h]; rfl, by rw [cell_of_row w b 1 _ 39 (0, 0) h]; rfl, by rw [cell_of_row w b 2 _ 39 (0, 0) h]; rfl,
   frozen_of_row w b 0 _ 39 h, frozen_of_row w b 1 _ 39 h, frozen_of_row w b 2 _ 39 h⟩

theorem rcell {w : World} {g : Nat} {cur : Array Value} (h : w.heap[g]? = some (.cells cur 41 (0, 0))) (o : Nat) {x : Value} (hx : cur[o]? = some x) :
    w.cell? ⟨g, o, none⟩ = some x ∧ w.frozen? ⟨g, o, none⟩ = false :=
  ⟨by rw [cell_of_row w g o _ 41 (0, 0) h]; exact hx, frozen_of_row w g o _ 41 h⟩

theorem apart {w : World} {b g : Nat} {x cur : Array Value} (hb : w.heap[b]? = some (.cells x 39 (0, 0))) (hg : w.heap[g]? = some (.cells cur 41 (0, 0))) : g ≠ b := by
  rintro rfl
  rw [hb] at hg
  simp at hg

theorem put0 {w : World} {b : Nat} {x y z : Value} (u : Value) (h : w.heap[b]? = some (.cells #[x, y, z] 39 (0, 0))) : (w.setCell ⟨b, 0, none⟩ u).heap[b]? = some (.cells #[u, y, z] 39 (0, 0)) := by
  rw [heap_setCell_same w b 0 _ 39 _ h]; rfl
theorem put1 {w : World} {b : Nat} {x y z : Value} (u : Value) (h : w.heap[b]? = some (.cells #[x, y, z] 39 (0, 0))) : (w.setCell ⟨b, 1, none⟩ u).heap[b]? = some (.cells #[x, u, z] 39 (0, 0)) := by
  rw [heap_setCell_same w b 1 _ 39 _ h]; rfl
theorem put2 {w : World} {b : Nat} {x y z : Value} (u : Value) (h : w.heap[b]? = some (.cells #[x, y, z] 39 (0, 0))) : (w.setCell ⟨b, 2, none⟩ u).heap[b]? = some (.cells #[x, y, u] 39 (0, 0)) := by
  rw [heap_setCell_same w b 2 _ 39 _ h]; rfl
theorem keepG {w : World} {b g o : Nat} {u : Value} {x : Option Obj} (h : w.heap[g]? = x) (hne : g ≠ b) : (w.setCell ⟨b, o, none⟩ u).heap[g]? = x := by
  rw [Below.heap_setCell _ _ _ _ (by simpa using hne)]; exact h

set_option maxHeartbeats 400000 in
theorem settle8_noop (b : Nat) (st seq : Int) (w : World) (hc : w.cell? ⟨b, 0, none⟩ = some (.int .u64 st)) (h : seq ≤ st) :
    Calls Try.prog 8 #[.pointer (some ⟨b, 0, none⟩), .int .u64 seq] w fun e w' => e = .returned (.tuple #[]) ∧ w' = w := by
  go_enter Try.func8, Try.ntmps8
  go_wp2
  try simp only [Exit.inBlock, Exit.then]
  refine bodyPost_ret (results_none rfl _ _ _) rfl ?_
  exact ⟨rfl, rfl⟩

/-- The nil slice: nothing to forget. -/
theorem settle8_nil (b : Nat) (st seq n : Int) (w : World) (hb : w.heap[b]? = some (.cells #[.int .u64 st, .slice none 0 0, .int .i64 n] 39 (0, 0))) (hst : st < seq) :
    Calls Try.prog 8 #[.pointer (some ⟨b, 0, none⟩), .int .u64 seq] w fun e w' => e = .returned (.tuple #[]) ∧ w'.heap[b]? = some (.cells #[.int .u64 seq, .slice none 0 0, .int .i64 n] 39 (0, 0)) ∧ ∀ B, B ≤ b → Below B w w' := by
  obtain ⟨c0, c1, c2, f0, f1, f2⟩ := dcell hb
  have HB : Hid (w.heap[b]? = some (.cells #[.int .u64 st, .slice none 0 0, .int .i64 n] 39 (0, 0))) := hb
  clear hb
  go_enter Try.func8, Try.ntmps8
  go_wp2
  refine wp_loop_rounds 1 ?_
  rw [rounds_succ]
  go_wp2
  go_end0
  refine ⟨rfl, ?_, fun B hB => ?_⟩
  · exact put1 _ (put0 _ HB.out)
  · exact ((Below.refl _ _).setCell hB _).setCell hB _

/-- What the array's cells hold: run j lies at off + 2j, off + 2j + 1. -/
def RunsAt (cur : Array Value) (off : Nat) (rs : List (Int × Int)) : Prop :=
  ∀ j, j < rs.length → cur[off + j * 2]? = some (.int .u64 (rs.getD j (0, 0)).1) ∧ cur[off + j * 2 + 1]? = some (.int .u64 (rs.getD j (0, 0)).2)

theorem RunsAt.drop {cur : Array Value} {off : Nat} {rs : List (Int × Int)} (h : RunsAt cur off rs) (k : Nat) : RunsAt cur (off + k * 2) (rs.drop k) := by
  intro j hj
  simp only [List.length_drop] at hj
  have := h (k + j) (by omega)
  have e : rs.getD (k + j) (0, 0) = (rs.drop k).getD j (0, 0) := by simp [List.getD]
  rw [← e]
  have e1 : off + k * 2 + j * 2 = off + (k + j) * 2 := by omega
  rw [e1]
  exact this

theorem RunsAt.set {cur : Array Value} {off : Nat} {f f' l : Int} {t : List (Int × Int)} (h : RunsAt cur off ((f, l) :: t)) : RunsAt (cur.setIfInBounds off (.int .u64 f')) off ((f', l) :: t) := by
  intro j hj
  have h0 := h j (by simpa using hj)
  match j with
  | 0 =>
    simp only [Nat.zero_mul, Nat.add_zero] at h0 ⊢
    obtain ⟨h1, h2⟩ := h0
    have hlt : off < cur.size := (Array.getElem?_eq_some_iff.1 h1).1
    refine ⟨?_, ?_⟩
    · simp [hlt]
    · rw [Array.getElem?_setIfInBounds, if_neg (by omega)]; exact h2
  | j + 1 =>
    rw [Array.getElem?_setIfInBounds, if_neg (by omega), Array.getElem?_setIfInBounds, if_neg (by omega)]
    exact h0

/-- What Settle leaves: block b is the Delivered, its runs lie in block g. -/
def Kept (w w' : World) (b g : Nat) (seq n : Int) (rs : List (Int × Int)) : Prop :=
  ∃ off cap cur, w'.heap[b]? = some (.cells #[.int .u64 seq, .slice (some ⟨g, off, none⟩) rs.length cap, .int .i64 n] 39 (0, 0)) ∧ w'.heap[g]? = some (.cells cur 41 (0, 0)) ∧
    RunsAt cur off rs ∧ rs.length ≤ cap ∧ ∀ B, B ≤ b → B ≤ g → Below B w w'

set_option maxHeartbeats 1000000 in
theorem settle8_go (b g off cap : Nat) (st seq n : Int) (rs : List (Int × Int)) (cur : Array Value) (w : World)
    (hb : w.heap[b]? = some (.cells #[.int .u64 st, .slice (some ⟨g, off, none⟩) rs.length cap, .int .i64 n] 39 (0, 0))) (hg : w.heap[g]? = some (.cells cur 41 (0, 0)))
    (hcur : RunsAt cur off rs) (hcap : rs.length ≤ cap) (hlen : rs.length ≤ 65536) (hst : st < seq) :
    Calls Try.prog 8 #[.pointer (some ⟨b, 0, none⟩), .int .u64 seq] w fun e w' => e = .returned (.tuple #[]) ∧ Kept w w' b g seq (settleN seq n rs) (settleR seq rs) := by
  have hne : g ≠ b := apart hb hg
  obtain ⟨c0, c1, c2, f0, f1, f2⟩ := dcell hb
  have HB : Hid (w.heap[b]? = some (.cells #[.int .u64 st, .slice (some ⟨g, off, none⟩) rs.length cap, .int .i64 n] 39 (0, 0))) := hb
  have HG : Hid (w.heap[g]? = some (.cells cur 41 (0, 0))) := hg
  have HC : Hid (RunsAt cur off rs) := hcur
  clear hb hg hcur
  go_enter Try.func8, Try.ntmps8
  go_wp2
  go_loopw [4] (fun i wr => ∃ k : Nat, k ≤ rs.length ∧ i = .int .i64 k ∧ ∃ m : Int, wr.heap[b]? = some (.cells #[.int .u64 seq, .slice (some ⟨g, off, none⟩) rs.length cap, .int .i64 m] 39 (0, 0)) ∧ wr.heap[g]? = some (.cells cur 41 (0, 0)) ∧
      settleR seq rs = settleR seq (rs.drop k) ∧ settleN seq n rs = settleN seq m (rs.drop k) ∧ ∀ B, B ≤ b → B ≤ g → Below B w wr) (fun i _ => rs.length - (intOf i).toNat)
  case atStart => exact ⟨0, Nat.zero_le _, rfl, n, put0 _ HB.out, keepG HG.out hne, rfl, rfl, fun B hB _ => (Below.refl _ _).setCell hB _⟩
  case round =>
    obtain ⟨k, hk, rfl, m, hb, hg, hR, hN, hbel⟩ := hrel
    clear c0 c1 c2 f0 f1 f2
    obtain ⟨c0, c1, c2, f0, f1, f2⟩ := dcell hb
    have HB' : Hid (wr.heap[b]? = some (.cells #[.int .u64 seq, .slice (some ⟨g, off, none⟩) rs.length cap, .int .i64 m] 39 (0, 0))) := hb
    have HG' : Hid (wr.heap[g]? = some (.cells cur 41 (0, 0))) := hg
    have HR : Hid (settleR seq rs = settleR seq (rs.drop k)) := hR
    have HN : Hid (settleN seq n rs = settleN seq m (rs.drop k)) := hN
    have HL : Hid (∀ B, B ≤ b → B ≤ g → Below B w wr) := hbel
    clear hb hR hN hbel
    by_cases hlt : k < rs.length
    · obtain ⟨f, l, hd, hx, hy⟩ : ∃ f l : Int, rs.drop k = (f, l) :: rs.drop (k + 1) ∧ cur[off + k * 2]? = some (.int .u64 f) ∧ cur[off + k * 2 + 1]? = some (.int .u64 l) :=
        ⟨_, _, drop_at hlt, (HC.out k hlt).1, (HC.out k hlt).2⟩
      obtain ⟨cf, ff⟩ := rcell hg _ hx
      obtain ⟨cl, _⟩ := rcell hg _ hy
      have HD : Hid (rs.drop k = (f, l) :: rs.drop (k + 1)) := hd
      clear hd hx hy hg
      by_cases hls : l < seq
      · go_wp2
        go_region
        go_wp2
        go_roundw
        case rel =>
          refine ⟨k + 1, by omega, by go_num, wrap64 (m - wrap64 (IntKind.u64.wrap (IntKind.u64.wrap (l - f) + 1))), put2 _ HB'.out, keepG HG'.out hne, ?_, ?_, fun B h1 h2 => ((HL.out B h1 h2).setCell h1 _).drew⟩
          · rw [HR.out, HD.out, settleR_cons_lt hls]
          · rw [HN.out, HD.out, settleN_cons_lt hls]
        case measure => simp [intOf]; omega
      · have hkc : ¬ cap = k := by omega
        have hpos : (0 : Int) < ((rs.length - k : Nat) : Int) := by omega
        by_cases hfs : f < seq
        · have eR : settleR seq rs = (seq, l) :: rs.drop (k + 1) := by rw [HR.out, HD.out, settleR_cons_cut hls hfs]
          have eN : settleN seq n rs = wrap64 (m - wrap64 (IntKind.u64.wrap (seq - f))) := by rw [HN.out, HD.out, settleN_cons_cut hls hfs]
          have HE : Hid (settleR seq rs = (seq, l) :: rs.drop (k + 1)) := eR
          have HM : Hid (settleN seq n rs = wrap64 (m - wrap64 (IntKind.u64.wrap (seq - f)))) := eN
          have HX : Hid (RunsAt cur (off + k * 2) ((f, l) :: rs.drop (k + 1))) := by have := HC.out.drop k; rw [HD.out] at this; exact this
          clear eR eN
          go_wp2
          go_region
          go_wp2
          go_end0
          have eL : (settleR seq rs).length = rs.length - k := by rw [HE.out]; simp; omega
          refine ⟨rfl, off + k * 2, cap - k, cur.setIfInBounds (off + k * 2) (.int .u64 seq), ?_, ?_, ?_, ?_, fun B h1 h2 => ?_⟩
          · rw [eL, HM.out]
            exact keepG (put2 _ (put1 _ HB'.out)) hne.symm
          · exact heap_setCell_same _ g (off + k * 2) _ 41 _ (keepG (keepG HG'.out hne) hne)
          · rw [HE.out]
            exact HX.out.set
          · rw [eL]; omega
          · exact ((((HL.out B h1 h2).setCell h1 _).setCell h1 _).setCell h2 _).drew
        · have eR : settleR seq rs = (f, l) :: rs.drop (k + 1) := by rw [HR.out, HD.out, settleR_cons_all hls hfs]
          have eN : settleN seq n rs = m := by rw [HN.out, HD.out, settleN_cons_all hls hfs]
          have HE : Hid (settleR seq rs = (f, l) :: rs.drop (k + 1)) := eR
          have HM : Hid (settleN seq n rs = m) := eN
          have HX : Hid (RunsAt cur (off + k * 2) ((f, l) :: rs.drop (k + 1))) := by have := HC.out.drop k; rw [HD.out] at this; exact this
          clear eR eN
          go_wp2
          go_end0
          have eL : (settleR seq rs).length = rs.length - k := by rw [HE.out]; simp; omega
          refine ⟨rfl, off + k * 2, cap - k, cur, ?_, ?_, ?_, ?_, fun B h1 h2 => ?_⟩
          · rw [eL, HM.out]
            exact put1 _ HB'.out
          · exact keepG HG'.out hne
          · rw [HE.out]
            exact HX.out
          · rw [eL]; omega
          · exact (HL.out B h1 h2).setCell h1 _
    · have HK : Hid (k = rs.length) := (by omega : k = rs.length)
      have eR : settleR seq rs = [] := by rw [HR.out, List.drop_eq_nil_of_le (by omega)]; rfl
      have eN : settleN seq n rs = m := by rw [HN.out, List.drop_eq_nil_of_le (by omega)]; rfl
      have HE : Hid (settleR seq rs = []) := eR
      have HM : Hid (settleN seq n rs = m) := eN
      clear eR eN
      have hz : ¬ (0 : Int) < ((rs.length - k : Nat) : Int) := by omega
      by_cases hck : cap = k
      · go_wp2
        go_end0
        refine ⟨rfl, off, 0, cur, ?_, ?_, ?_, ?_, fun B h1 h2 => ?_⟩
        · have e1 : (settleR seq rs).length = rs.length - k := by rw [HE.out]; simp; omega
          rw [e1, HM.out]
          exact put1 _ HB'.out
        · exact keepG HG'.out hne
        · rw [HE.out]; intro j hj; simp at hj
        · rw [HE.out]; simp
        · exact (HL.out B h1 h2).setCell h1 _
      · go_wp2
        go_end0
        refine ⟨rfl, off + k * 2, cap - k, cur, ?_, ?_, ?_, ?_, fun B h1 h2 => ?_⟩
        · have e1 : (settleR seq rs).length = rs.length - k := by rw [HE.out]; simp; omega
          rw [e1, HM.out]
          exact put1 _ HB'.out
        · exact keepG HG'.out hne
        · rw [HE.out]; intro j hj; simp at hj
        · rw [HE.out]; simp
        · exact (HL.out B h1 h2).setCell h1 _

/-- A Delivered in memory: block b (from B on) holds settled, runs, n; the runs lie in a block from B on. -/
def Del (w : World) (B b : Nat) (st n : Int) (rs : List (Int × Int)) : Prop :=
  B ≤ b ∧ ∃ v, w.heap[b]? = some (.cells #[.int .u64 st, v, .int .i64 n] 39 (0, 0)) ∧
    ((v = .slice none 0 0 ∧ rs = []) ∨ ∃ g off cap cur, v = .slice (some ⟨g, off, none⟩) rs.length cap ∧ B ≤ g ∧ w.heap[g]? = some (.cells cur 41 (0, 0)) ∧ RunsAt cur off rs ∧ rs.length ≤ cap)

def setS (st seq : Int) : Int := if st < seq then seq else st
def setR (st seq : Int) (rs : List (Int × Int)) : List (Int × Int) := if st < seq then settleR seq rs else rs
def setN (st seq n : Int) (rs : List (Int × Int)) : Int := if st < seq then settleN seq n rs else n

theorem settle8 (B b : Nat) (st seq n : Int) (rs : List (Int × Int)) (w : World) (h : Del w B b st n rs) (hlen : rs.length ≤ 65536) :
    Calls Try.prog 8 #[.pointer (some ⟨b, 0, none⟩), .int .u64 seq] w fun e w' => e = .returned (.tuple #[]) ∧ Del w' B b (setS st seq) (setN st seq n rs) (setR st seq rs) ∧ Below B w w' := by
  obtain ⟨hB, v, hb, hv⟩ := h
  by_cases hst : st < seq
  · simp only [setS, setN, setR, if_pos hst]
    rcases hv with ⟨rfl, rfl⟩ | ⟨g, off, cap, cur, rfl, hBg, hg, hrun, hcap⟩
    · refine (settle8_nil b st seq n w hb hst).mono ?_
      rintro e w' ⟨rfl, hb', hbel⟩
      exact ⟨rfl, ⟨hB, _, hb', .inl ⟨rfl, rfl⟩⟩, hbel B hB⟩
    · refine (settle8_go b g off cap st seq n rs cur w hb hg hrun hcap hlen hst).mono ?_
      rintro e w' ⟨rfl, off', cap', cur', hb', hg', hr', hc', hbel⟩
      exact ⟨rfl, ⟨hB, _, hb', .inr ⟨g, off', cap', cur', rfl, hBg, hg', hr', hc'⟩⟩, hbel B hB hBg⟩
  · simp only [setS, setN, setR, if_neg hst]
    refine (settle8_noop b st seq w (dcell hb).1 (by omega)).mono ?_
    rintro e w' ⟨rfl, rfl⟩
    exact ⟨rfl, ⟨hB, v, hb, hv⟩, Below.refl _ _⟩

/-! ### The readers -/
set_option maxHeartbeats 400000 in
theorem settled9 {B b : Nat} {st n : Int} {rs : List (Int × Int)} {w : World} (h : Del w B b st n rs) :
    Calls Try.prog 9 #[.pointer (some ⟨b, 0, none⟩)] w fun e w' => e = .returned (.int .u64 st) ∧ w' = w := by
  obtain ⟨_, v, hb, _⟩ := h
  obtain ⟨c0, _, _, _, _, _⟩ := dcell hb
  clear hb
  go_enter Try.func9, Try.ntmps9
  go_wp2
  go_ret
  exact ⟨rfl, rfl⟩

set_option maxHeartbeats 400000 in
theorem n13 {B b : Nat} {st n : Int} {rs : List (Int × Int)} {w : World} (h : Del w B b st n rs) :
    Calls Try.prog 13 #[.pointer (some ⟨b, 0, none⟩)] w fun e w' => e = .returned (.int .i64 n) ∧ w' = w := by
  obtain ⟨_, v, hb, _⟩ := h
  obtain ⟨_, _, c2, _, _, _⟩ := dcell hb
  clear hb
  go_enter Try.func13, Try.ntmps13
  go_wp2
  go_ret
  exact ⟨rfl, rfl⟩

set_option maxHeartbeats 400000 in
theorem len10 {B b : Nat} {st n : Int} {rs : List (Int × Int)} {w : World} (h : Del w B b st n rs) :
    Calls Try.prog 10 #[.pointer (some ⟨b, 0, none⟩)] w fun e w' => e = .returned (.int .i64 rs.length) ∧ w' = w := by
  obtain ⟨_, v, hb, hv⟩ := h
  obtain ⟨_, c1, _, _, _, _⟩ := dcell hb
  clear hb
  rcases hv with ⟨rfl, rfl⟩ | ⟨g, off, cap, cur, rfl, _⟩
  · go_enter Try.func10, Try.ntmps10
    go_wp2
    go_ret
    exact ⟨rfl, rfl⟩
  · go_enter Try.func10, Try.ntmps10
    go_wp2
    go_ret
    exact ⟨rfl, rfl⟩

set_option maxHeartbeats 400000 in
theorem first11 {B b k : Nat} {st n x y : Int} {rs : List (Int × Int)} {w : World} (h : Del w B b st n rs) (hk : k < rs.length) (hx : rs.getD k (0, 0) = (x, y)) :
    Calls Try.prog 11 #[.pointer (some ⟨b, 0, none⟩), .int .i64 k] w fun e w' => e = .returned (.int .u64 x) ∧ w' = w := by
  obtain ⟨_, v, hb, hv⟩ := h
  obtain ⟨_, c1, _, _, _, _⟩ := dcell hb
  clear hb
  rcases hv with ⟨rfl, rfl⟩ | ⟨g, off, cap, cur, rfl, _, hg, hrun, hcap⟩
  · simp at hk
  · have hr := (hrun k hk).1
    rw [hx] at hr
    obtain ⟨cf, _⟩ := rcell hg _ hr
    clear hx hrun hr hg
    go_enter Try.func11, Try.ntmps11
    go_wp2
    go_ret
    exact ⟨rfl, rfl⟩

set_option maxHeartbeats 400000 in
theorem last12 {B b k : Nat} {st n x y : Int} {rs : List (Int × Int)} {w : World} (h : Del w B b st n rs) (hk : k < rs.length) (hx : rs.getD k (0, 0) = (x, y)) :
    Calls Try.prog 12 #[.pointer (some ⟨b, 0, none⟩), .int .i64 k] w fun e w' => e = .returned (.int .u64 y) ∧ w' = w := by
  obtain ⟨_, v, hb, hv⟩ := h
  obtain ⟨_, c1, _, _, _, _⟩ := dcell hb
  clear hb
  rcases hv with ⟨rfl, rfl⟩ | ⟨g, off, cap, cur, rfl, _, hg, hrun, hcap⟩
  · simp at hk
  · have hr := (hrun k hk).2
    rw [hx] at hr
    obtain ⟨cf, _⟩ := rcell hg _ hr
    clear hx hrun hr hg
    go_enter Try.func12, Try.ntmps12
    go_wp2
    go_ret
    exact ⟨rfl, rfl⟩

/-- What lies below B2 stands while only what is new from B2 on turns. -/
theorem Del.keep {w w' : World} {B b : Nat} {st n : Int} {rs : List (Int × Int)} (h : Del w B b st n rs) (hb : Below w.heap.size w w') : Del w' B b st n rs := by
  obtain ⟨hB, v, hbb, hv⟩ := h
  refine ⟨hB, v, ?_, ?_⟩
  · rw [hb.block b (Array.getElem?_eq_some_iff.1 hbb).1]; exact hbb
  · rcases hv with hv | ⟨g, off, cap, cur, e, hBg, hg, r⟩
    · exact .inl hv
    · exact .inr ⟨g, off, cap, cur, e, hBg, by rw [hb.block g (Array.getElem?_eq_some_iff.1 hg).1]; exact hg, r⟩

end Go.Proofs.Qxb6627775a
