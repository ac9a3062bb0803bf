/-
  THE WALK OF nas.EncodeBCD.
-/
import Derived.Test.Qxb6627853aPlain
import Derived.Test.Qxb6627853aRows
import Derived.WalkKit
import Derived.WalkSpells
import Derived.WalkLawsBesides
import Derived.Laws.IdiomStrings
import Derived.Deep.QuietTactic
import Derived.BigQuiet
import Derived.BigRegion
import Derived.RegionTactic
namespace Go.Proofs.Qxb6627853a
open Go.RowKit

theorem info5 : (Try.prog.info? 5).map (fun i => (i.zero, i.size, i.bytes)) = some (some (.int .u8 0), 1, 1) := by kernel_rfl

theorem bytes256 {P : Int → Prop} (h : ∀ n : Fin 256, P (n.val : Int)) (b : Int) (h0 : 0 ≤ b) (h1 : b ≤ 255) : P b := by
  have := h ⟨b.toNat, by omega⟩
  rwa [show ((b.toNat : Nat) : Int) = b by omega] at this
theorem low_nib (d : Int) (h0 : 0 ≤ d) (h1 : d ≤ 255) : bits BinOp.or IntKind.u8 (bits BinOp.andNot IntKind.u8 255 15) ((d - 48) % 256) = 240 + d % 16 :=
  bytes256 (P := fun d => bits BinOp.or IntKind.u8 (bits BinOp.andNot IntKind.u8 255 15) ((d - 48) % 256) = 240 + d % 16) (by decide +kernel) d h0 h1

theorem nibs16 : ∀ a c : Fin 16, bits BinOp.or IntKind.u8 (bits BinOp.andNot IntKind.u8 (240 + (a.val : Int)) 240) ((c.val : Int) * 16) = (a.val : Int) + 16 * (c.val : Int) := by decide +kernel
theorem high_nib (e d : Int) : bits BinOp.or IntKind.u8 (bits BinOp.andNot IntKind.u8 (240 + e % 16) 240) ((d - 48) % 256 * 16 % 256) = e % 16 + 16 * (d % 16) := by
  have e1 : (d - 48) % 256 * 16 % 256 = d % 16 * 16 := by omega
  rw [e1]
  have := nibs16 ⟨(e % 16).toNat, by omega⟩ ⟨(d % 16).toNat, by omega⟩
  simp only at this
  rwa [show (((e % 16).toNat : Nat) : Int) = e % 16 by omega, show (((d % 16).toNat : Nat) : Int) = d % 16 by omega] at this

theorem bcell {w : World} {g : Nat} {m : Nat} {F : Nat → Int} (h : w.heap[g]? = some (.cells (rowOf m F) 5 (0, 0))) (o : Nat) (ho : o < m) :
    w.cell? ⟨g, o, none⟩ = some (.int .u8 (F o)) ∧ w.frozen? ⟨g, o, none⟩ = false :=
  ⟨by rw [cell_of_row w g o _ 5 (0, 0) h]; exact rowOf_at m F o ho, frozen_of_row w g o _ 5 h⟩

theorem owned_zero {w : World} {b m : Nat} (h : w.ownsRow b 5 1 (.slice (some ⟨b, 0, none⟩) m m) m (madeCells #[Value.int IntKind.u8 0] m).toList) : w.heap[b]? = some (.cells (rowOf m fun _ => 0) 5 (0, 0)) := by
  rcases h.2 with ⟨h', _⟩ | ⟨g, cap, cur, h', _, hg, _, _, hs, ht⟩
  · simp at h'
  · simp only [Value.slice.injEq, Option.some.injEq, Addr.mk.injEq, and_true, true_and] at h'
    obtain ⟨rfl, rfl⟩ := h'
    rw [hg]
    congr 2
    rw [List.take_of_length_le (by simp [hs])] at ht
    apply Array.toList_inj.1
    rw [ht]
    rw [toList_madeCells_one]
    unfold rowOf
    rw [List.map_const', List.length_range]

set_option maxHeartbeats 1000000 in
theorem enc6 (s : ByteArray) (m : Nat) (w : World) (hs : s.size ≤ 1048576) (hm : m = (s.size + 1) / 2) :
    Calls Try.prog 6 #[.string s] w fun e w' => e = .returned (.slice (some ⟨w.heap.size, 0, none⟩) m m) ∧ w'.heap[w.heap.size]? = some (.cells (rowOf m (octet s s.size)) 5 (0, 0)) ∧ Below w.heap.size w w' := by
  obtain ⟨i0, hi, hz0, hz1, hz2⟩ := info_parts info5
  have HM : Hid (m = (s.size + 1) / 2) := hm
  have hmle : m ≤ 524288 := by omega
  have hL : ((s.size : Int) + 1) / 2 = (m : Int) := by omega
  have HL : Hid (((s.size : Int) + 1) / 2 = (m : Int)) := hL
  clear hm hL
  have kc := fun (w : World) (s : ByteArray) => run_bytes_of_string (P := Try.prog) w 9 23 5 s Try.underlying9 Try.underlying23 Try.underlying5
  go_enter Try.func6, Try.ntmps6
  go_wp2_with (at_make; refine wpList_make_full _ rfl _ _ 23 rfl w.heap.size 5 i0 (.int .u8 0) 1 Try.underlying23 hi hz0 hz1 .i64 .i64 _ _ m rfl rfl ?l1 ?l2 ?l3 ?l4 ?l5 ?_)
  case l1 => exact HL.out
  case l2 => exact HL.out
  case l3 => rw [hz2]; omega
  case l4 => unfold maxLen; omega
  case l5 => exact Nat.le_refl _
  intro w1 hown hgrow
  have HB : Hid (w1.heap[w.heap.size]? = some (.cells (rowOf m fun _ => 0) 5 (0, 0))) := owned_zero hown
  have HW : Hid (Below w.heap.size w w1) := (Below.refl _ _).grown hgrow (Nat.le_refl _) (fun k h => by cases h)
  clear hown hgrow hi hz0 hz1 hz2
  go_wp2
  go_loopw [15] (fun i wr => ∃ k : Nat, k ≤ m ∧ i = .int .i64 k ∧ wr.heap[w.heap.size]? = some (.cells (rowOf m fun j => if j < k then 255 else 0) 5 (0, 0)) ∧ Below w.heap.size w wr) (fun i _ => m - (intOf i).toNat)
  case atStart => exact ⟨0, Nat.zero_le _, rfl, by rw [rowOf_congr m (fun j => if j < 0 then 255 else 0) (fun _ => 0) (fun t _ => by simp)]; exact HB.out, HW.out⟩
  case round =>
    obtain ⟨k, hk, rfl, hb, hbel⟩ := hrel
    have HB' : Hid (wr.heap[w.heap.size]? = some (.cells (rowOf m fun j => if j < k then 255 else 0) 5 (0, 0))) := hb
    have HW' : Hid (Below w.heap.size w wr) := hbel
    clear hbel hb
    by_cases hlt : k < m
    · obtain ⟨c0, f0⟩ := bcell HB'.out k hlt
      simp only [Nat.lt_irrefl, if_false] at c0
      go_wp2
      go_roundw
      case rel =>
        refine ⟨k + 1, by omega, by go_num, ?_, HW'.out.setCell (Nat.le_refl _) _⟩
        rw [heap_setCell_same _ _ _ _ _ _ HB'.out]
        rw [rowOf_set m _ (fun j => if j < k + 1 then 255 else 0) k 255 (by simp) (fun t _ ht => by
          by_cases h : t < k
          · rw [if_pos h, if_pos (by omega)]
          · rw [if_neg h, if_neg (by omega)])]
      case measure => simp [intOf]; omega
    · have HB2 : Hid (wr.heap[w.heap.size]? = some (.cells (rowOf m (octet s 0)) 5 (0, 0))) := by
        show wr.heap[w.heap.size]? = _
        rw [HB'.out, rowOf_congr m _ (octet s 0) (fun t ht => by rw [if_pos (by omega)]; unfold octet; rw [if_neg (by omega), if_neg (by omega)])]
      have hwl : w.heap.size < wr.heap.size := (Array.getElem?_eq_some_iff.1 HB'.out).1
      clear HB' HB HW
      obtain ⟨wo, rfl⟩ : ∃ wo : World, wo = wr := ⟨_, rfl⟩
      go_wp2
      obtain ⟨C, hC⟩ : ∃ C, C = wo.heap.size := ⟨_, rfl⟩
      obtain ⟨cp, hcp⟩ : ∃ cp, cp = grownCap wo s.size 0 5 := ⟨_, rfl⟩
      rw [← hcp, ← hC]
      have HCs : Hid (C = wo.heap.size) := hC
      have hCB : w.heap.size < C := by omega
      clear hC hcp
      go_loopw [25] (fun i wr => ∃ k : Nat, k ≤ s.size ∧ i = .int .i64 k ∧ wr.heap[w.heap.size]? = some (.cells (rowOf m (octet s k)) 5 (0, 0)) ∧ wr.heap[C]? = some (.cells (bytesRow s cp) 5 ((bytesRow s cp).size, (bytesRow s cp).size + 1)) ∧ Below w.heap.size w wr) (fun i _ => s.size - (intOf i).toNat)
      case atStart =>
        refine ⟨0, Nat.zero_le _, rfl, ?_, ?_, ?_⟩
        · show (wo.alloc _).heap[w.heap.size]? = _
          rw [Below.heap_alloc _ _ _ hwl]; exact HB2.out
        · show (wo.alloc _).heap[C]? = _
          rw [HCs.out]; exact heap_alloc_new wo _
        · exact (HW'.out.alloc (by omega) _).drew
      case round =>
        obtain ⟨k, hk, rfl, hb, hc, hbel⟩ := hrel
        have HB : Hid (wr.heap[w.heap.size]? = some (.cells (rowOf m (octet s k)) 5 (0, 0))) := hb
        have HC : Hid (wr.heap[C]? = some (.cells (bytesRow s cp) 5 ((bytesRow s cp).size, (bytesRow s cp).size + 1))) := hc
        have HW : Hid (Below w.heap.size w wr) := hbel
        clear hb hc hbel
        by_cases hlt : k < s.size
        · have gc : wr.cell? ⟨C, k, none⟩ = some (.int .u8 (bt s k)) := by
            rw [cell_of_row wr C k _ 5 _ HC.out, bytesRow_at s cp k hlt]
            unfold bt; rw [dif_pos hlt]; rfl
          have b0 := bt_nonneg s k
          have b1 := bt_le s k
          obtain ⟨d, hd⟩ : ∃ d, d = bt s k := ⟨_, rfl⟩
          rw [← hd] at gc b0 b1
          have HD : Hid (d = bt s k) := hd
          clear hd
          have hl0 : (k : Int) < (s.size : Int) := by omega
          rcases Nat.mod_two_eq_zero_or_one k with he | he
          · obtain ⟨j, rfl⟩ : ∃ j, k = 2 * j := ⟨k / 2, by omega⟩
            clear he
            have hj : j < m := by have := HM.out; omega
            have hj0 : (j : Int) < (m : Int) := by omega
            obtain ⟨c0, f0⟩ := bcell HB.out j hj
            rw [octet_even] at c0
            go_wp2
            go_region
            go_wp2
            go_roundw
            case rel =>
              refine ⟨2 * j + 1, by omega, by go_num, ?_, ?_, (HW.out.setCell (Nat.le_refl _) _).drew⟩
              · show (wr.setCell _ _).heap[w.heap.size]? = _
                rw [heap_setCell_same _ _ _ _ _ _ HB.out, low_nib d b0 b1,
                  rowOf_set m _ (octet s (2 * j + 1)) j (240 + d % 16) (by rw [octet_odd, HD.out]) (fun t _ ht => octet_other_even s j t ht)]
              · show (wr.setCell _ _).heap[C]? = _
                rw [Below.heap_setCell _ _ _ _ (by simp; omega)]; exact HC.out
            case measure => simp [intOf]; omega
          · obtain ⟨j, rfl⟩ : ∃ j, k = 2 * j + 1 := ⟨k / 2, by omega⟩
            clear he
            have hj : j < m := by have := HM.out; omega
            have hj0 : (j : Int) < (m : Int) := by omega
            obtain ⟨c0, f0⟩ := bcell HB.out j hj
            rw [octet_odd] at c0
            obtain ⟨y, hy⟩ : ∃ y, y = 240 + bt s (2 * j) % 16 := ⟨_, rfl⟩
            rw [← hy] at c0
            have HY : Hid (y = 240 + bt s (2 * j) % 16) := hy
            have eq2 : (2 * j + 1) / 2 = j := by omega
            clear hy
            go_wp2
            go_region
            go_wp2
            go_roundw
            case rel =>
              refine ⟨2 * j + 2, by omega, by go_num, ?_, ?_, (HW.out.setCell (Nat.le_refl _) _).drew⟩
              · show (wr.setCell _ _).heap[w.heap.size]? = _
                rw [heap_setCell_same _ _ _ _ _ _ HB.out, HY.out, high_nib (bt s (2 * j)) d,
                  rowOf_set m _ (octet s (2 * j + 2)) j (bt s (2 * j) % 16 + 16 * (d % 16)) (by rw [octet_full, HD.out]) (fun t _ ht => octet_other_odd s j t ht)]
              · show (wr.setCell _ _).heap[C]? = _
                rw [Below.heap_setCell _ _ _ _ (by simp; omega)]; exact HC.out
            case measure => simp [intOf]; omega
        · go_wp2
          go_ret
          have e : k = s.size := by omega
          have hB := HB.out
          rw [e] at hB
          exact ⟨rfl, hB, HW.out⟩

end Go.Proofs.Qxb6627853a
