import Derived.Test.Qxb6600581aModsArith
import Derived.Test.Qxb6600581aModsSmall
namespace Go.Proofs.Qxb6600581aMods
open Go.RowKit

/-- The row of digits, k of them laid. -/
def drow (bt : Nat → Int) (k : Nat) : Array Value := irow .i8 52 fun i => if i < k then Plain.dg bt i else 0

theorem drow_zero (bt : Nat → Int) : drow bt 0 = #[.int .i8 0, .int .i8 0, .int .i8 0, .int .i8 0, .int .i8 0, .int .i8 0, .int .i8 0, .int .i8 0, .int .i8 0, .int .i8 0, .int .i8 0, .int .i8 0, .int .i8 0,
    .int .i8 0, .int .i8 0, .int .i8 0, .int .i8 0, .int .i8 0, .int .i8 0, .int .i8 0, .int .i8 0, .int .i8 0, .int .i8 0, .int .i8 0, .int .i8 0, .int .i8 0,
    .int .i8 0, .int .i8 0, .int .i8 0, .int .i8 0, .int .i8 0, .int .i8 0, .int .i8 0, .int .i8 0, .int .i8 0, .int .i8 0, .int .i8 0, .int .i8 0, .int .i8 0,
    .int .i8 0, .int .i8 0, .int .i8 0, .int .i8 0, .int .i8 0, .int .i8 0, .int .i8 0, .int .i8 0, .int .i8 0, .int .i8 0, .int .i8 0, .int .i8 0, .int .i8 0] := rfl

theorem Rd.later {w w' : World} {a : Option Addr} {len : Nat} {bt : Nat → Int} (h : Rd w a len bt) (hb : Below w.heap.size w w') : Rd w' a len bt := by
  refine ⟨fun hl => ?_, h.bd, h.past⟩
  obtain ⟨g, e, hg, hc⟩ := h.cells hl
  exact ⟨g, e, Nat.lt_of_lt_of_le hg hb.size, fun j hj => (hb.cell (by exact hg)).trans (hc j hj)⟩

theorem size26 : (Trym.prog.info? 26).map (·.size) = some 52 := by kernel_rfl
theorem drow_size (bt : Nat → Int) (k : Nat) : (drow bt k).size = 52 := irow_size _ _ _
theorem drow_info (bt : Nat → Int) (k : Nat) : (Trym.prog.info? 26).map (·.size) = some (drow bt k).size := by rw [drow_size]; exact size26
theorem drow_full (bt : Nat → Int) : drow bt 52 = irow .i8 52 (Plain.dg bt) := irow_congr fun i hi => by simp [hi]

/-- The loop's relation, one digit on. -/
theorem rel_next {bt : Nat → Int} {k : Nat} {w wr : World} {v c : Int} (hk : k < 52) (hb : Below w.heap.size w wr) (hs : w.heap.size + 2 = wr.heap.size)
    (h0 : wr.heap[w.heap.size]? = some (.cells (drow bt 0) 26 (0, 0))) (h1 : wr.heap[w.heap.size + 1]? = some (.cells (drow bt k) 26 (0, 0)))
    (h : v = Plain.dg bt k ∧ c = Plain.cy bt (k + 1)) :
    ∃ k' : Nat, k' ≤ 52 ∧ Value.int .i64 ((k : Int) + 1) = .int .i64 k' ∧ Value.int .i64 c = .int .i64 (Plain.cy bt k') ∧ Below w.heap.size w (wr.setCell ⟨w.heap.size + 1, k, none⟩ (.int .i8 v)) ∧
      w.heap.size + 2 = (wr.setCell ⟨w.heap.size + 1, k, none⟩ (.int .i8 v)).heap.size ∧
      (wr.setCell ⟨w.heap.size + 1, k, none⟩ (.int .i8 v)).heap[w.heap.size]? = some (.cells (drow bt 0) 26 (0, 0)) ∧
      (wr.setCell ⟨w.heap.size + 1, k, none⟩ (.int .i8 v)).heap[w.heap.size + 1]? = some (.cells (drow bt k') 26 (0, 0)) := by
  refine ⟨k + 1, by omega, by go_num, by rw [h.2], hb.setCell (by simp) _, by simpa using hs, ?_, ?_⟩
  · rw [heap_setCell_other _ _ _ _ (by simp)]; exact h0
  · exact irow_store h1 k v (fun i _ => by
      by_cases e : i = k
      · subst e; simp [h.1]
      · by_cases e2 : i < k
        · simp [e, e2, show i < k + 1 by omega]
        · simp [e, e2, show ¬ i < k + 1 by omega])

set_option maxHeartbeats 1000000 in
/-- 'signedDigits': the digits, as the plain law has them. -/
theorem digits_any (a : Option Addr) (len cap : Nat) (bt : Nat → Int) (w : World) (hl : len ≤ 1048576) (hr : Rd w a len bt) :
    Calls Trym.prog 13 #[.slice a len cap] w fun e w' => e = .returned (.agg (irow .i8 52 (Plain.dg bt))) ∧ Below w.heap.size w w' := by
  have HR : Hid (Rd w a len bt) := hr
  clear hr
  go_enter Trym.func13, Trym.ntmps13
  go_wp2
  rw [← drow_zero bt]
  go_loopw [4, 9] (fun c i wr => ∃ k : Nat, k ≤ 52 ∧ i = .int .i64 k ∧ c = .int .i64 (Plain.cy bt k) ∧ Below w.heap.size w wr ∧ w.heap.size + 2 = wr.heap.size ∧
      wr.heap[w.heap.size]? = some (.cells (drow bt 0) 26 (0, 0)) ∧ wr.heap[w.heap.size + 1]? = some (.cells (drow bt k) 26 (0, 0))) (fun _ i _ => 52 - (intOf i).toNat)
  case atStart =>
    refine ⟨0, by omega, rfl, rfl, ((Below.refl _ _).alloc (Nat.le_refl _) _).alloc (by simp) _, by simp, ?_, ?_⟩
    · exact heap_alloc2_old _ _ _
    · exact heap_alloc2_new _ _ _
  case round =>
    obtain ⟨k, hk, rfl, rfl, hbel, hsz, hr0, hr1⟩ := hrel
    have HB : Hid (Below w.heap.size w wr) := hbel
    have H0 : Hid (wr.heap[w.heap.size]? = some (.cells (drow bt 0) 26 (0, 0))) := hr0
    have H1 : Hid (wr.heap[w.heap.size + 1]? = some (.cells (drow bt k) 26 (0, 0))) := hr1
    have HS : Hid (w.heap.size + 2 = wr.heap.size) := hsz
    clear hr0 hsz
    by_cases hlt : k < 52
    · have hfz := frozen_of_row wr (w.heap.size + 1) k _ _ hr1
      have hown : ∃ v, wr.cell? ⟨w.heap.size + 1, k, none⟩ = some (.int .i8 v) := ⟨_, irow_cell hr1 k hlt⟩
      obtain ⟨v0, hown⟩ := hown
      have hcy := Plain.cy_bd bt k
      clear hr1
      have E8 : Hid (k * 5 / 8 = 5 * k / 8) := show _ = _ by omega
      have E8' : Hid (k * 5 % 8 = 5 * k % 8) := show _ = _ by omega
      by_cases h1 : k * 5 / 8 + 1 < len
      · obtain ⟨g, rfl, hg, hcell⟩ := HR.out.cells (by omega)
        have c0 : wr.cell? ⟨g, k * 5 / 8, none⟩ = some (.int .u8 (bt (k * 5 / 8))) := (hbel.cell (by exact hg)).trans (hcell _ (by omega))
        have c1 : wr.cell? ⟨g, k * 5 / 8 + 1, none⟩ = some (.int .u8 (bt (k * 5 / 8 + 1))) := (hbel.cell (by exact hg)).trans (hcell _ (by omega))
        have b0 := HR.out.bd (k * 5 / 8)
        have b1 := HR.out.bd (k * 5 / 8 + 1)
        have EQ : Hid (wrap64 (bits .and .i64 (wrap64 (bits .or .u16 (bt (k * 5 / 8)) (bt (k * 5 / 8 + 1) * 256) / 2 ^ (k * 5 % 8))) 31 + Plain.cy bt k) = Plain.raw bt k + Plain.cy bt k) := by
          show _ = _
          rw [both_eq _ _ _ _ b0 b1 hcy, E8.out, E8'.out]; rfl
        clear hcell hbel
        go_wp2
        · go_roundw
          case rel => exact rel_next hlt HB.out HS.out H0.out H1.out (close_hi EQ.out ‹_›)
          case measure => simp [intOf]; omega
        · go_roundw
          case rel => exact rel_next hlt HB.out HS.out H0.out H1.out (close_lo EQ.out ‹_›)
          case measure => simp [intOf]; omega
      · by_cases h0 : k * 5 / 8 < len
        · obtain ⟨g, rfl, hg, hcell⟩ := HR.out.cells (by omega)
          have c0 : wr.cell? ⟨g, k * 5 / 8, none⟩ = some (.int .u8 (bt (k * 5 / 8))) := (hbel.cell (by exact hg)).trans (hcell _ (by omega))
          have b0 := HR.out.bd (k * 5 / 8)
          have B1 : Hid (bt (k * 5 / 8 + 1) = 0) := HR.out.past _ (by omega)
          have EQ : Hid (wrap64 (bits .and .i64 (wrap64 (bt (k * 5 / 8) / 2 ^ (k * 5 % 8))) 31 + Plain.cy bt k) = Plain.raw bt k + Plain.cy bt k) := by
            show _ = _
            rw [low_eq _ _ _ (by omega) hcy]
            unfold Plain.raw
            rw [← E8.out, ← E8'.out, B1.out, Int.mul_zero, Int.add_zero]
          clear hcell hbel
          go_wp2
          · go_roundw
            case rel => exact rel_next hlt HB.out HS.out H0.out H1.out (close_hi EQ.out ‹_›)
            case measure => simp [intOf]; omega
          · go_roundw
            case rel => exact rel_next hlt HB.out HS.out H0.out H1.out (close_lo EQ.out ‹_›)
            case measure => simp [intOf]; omega
        · have B0 : Hid (bt (k * 5 / 8) = 0) := HR.out.past _ (by omega)
          have B1 : Hid (bt (k * 5 / 8 + 1) = 0) := HR.out.past _ (by omega)
          have EQ : Hid (wrap64 (bits .and .i64 0 31 + Plain.cy bt k) = Plain.raw bt k + Plain.cy bt k) := by
            show _ = _
            have h := low_eq 0 (Plain.cy bt k) (k * 5 % 8) (by omega) hcy
            have z : wrap64 ((0 : Int) / 2 ^ (k * 5 % 8)) = 0 := by rw [Int.zero_ediv]; exact IntWalk.wrap64_in 0 (by omega)
            rw [z] at h
            rw [h]
            unfold Plain.raw
            rw [← E8.out, ← E8'.out, B0.out, B1.out]
            rfl
          clear hbel
          go_wp2
          · go_roundw
            case rel => exact rel_next hlt HB.out HS.out H0.out H1.out (close_hi EQ.out ‹_›)
            case measure => simp [intOf]; omega
          · go_roundw
            case rel => exact rel_next hlt HB.out HS.out H0.out H1.out (close_lo EQ.out ‹_›)
            case measure => simp [intOf]; omega
    · obtain rfl : k = 52 := by omega
      clear hr1 hbel
      go_wp2_with (first | (refine wpList_load_row rfl 26 (.tmp 3) rfl (w.heap.size + 1) rfl 26 (drow bt 52) (0, 0) _ H1.out Trym.underlying26 rfl (drow_info bt 52) ?_) | (refine wpList_store_row rfl 26 (.tmp 2) (.tmp 58) rfl w.heap.size (drow bt 52) rfl rfl 26 (drow bt 0) H0.out (drow_info bt 52) rfl (irow_one _ _ _) ?_))
      refine bodyPost_ret (results_cell_row rfl _ _ w.heap.size 26 (drow bt 52) (0, 0) _ rfl (setRow_heap _ _ _ _ _ _ H0.out) Trym.underlying26 rfl (drow_info bt 52)) rfl ⟨by rw [drow_full], ?_⟩
      exact HB.out.trans ⟨rfl, rfl, rfl, by simp, fun i hi => setRow_other _ _ _ _ (by omega)⟩

set_option maxHeartbeats 400000 in
/-- 'ZZsignedDigits' hands them on. -/
theorem zzdigits_any (a : Option Addr) (len cap : Nat) (bt : Nat → Int) (w : World) (hl : len ≤ 1048576) (hr : Rd w a len bt) :
    Calls Trym.prog 8 #[.slice a len cap] w fun e w' => e = .returned (.agg (irow .i8 52 (Plain.dg bt))) ∧ Below w.heap.size w w' := by
  have HR : Hid (Rd w a len bt) := hr
  clear hr
  go_enter Trym.func8, Trym.ntmps8
  go_wp2_with fail
  rw [← drow_zero bt]
  refine (digits_any a len cap bt _ hl (HR.out.later ((Below.refl _ _).alloc (Nat.le_refl _) _))).mono ?_
  rintro e w1 ⟨rfl, hb⟩
  have hs : (w.alloc (.cells (drow bt 0) 26)).heap.size = w.heap.size + 1 := by simp
  have hg : w1.heap[w.heap.size]? = some (.cells (drow bt 0) 26 (0, 0)) := (hb.block _ (by omega)).trans (heap_alloc_new _ _)
  have HB : Hid (Below w.heap.size w w1) := ((Below.refl _ _).alloc (Nat.le_refl _) _).trans (hb.mono (by omega))
  have HG : Hid (w1.heap[w.heap.size]? = some (.cells (drow bt 0) 26 (0, 0))) := hg
  have hi : (Trym.prog.info? 26).map (·.size) = some (irow .i8 52 (Plain.dg bt)).size := by rw [irow_size]; exact size26
  clear hb hs hg
  go_wp2_with (refine wpList_store_row rfl 26 (.tmp 2) (.tmp 4) rfl w.heap.size (irow .i8 52 (Plain.dg bt)) rfl rfl 26 (drow bt 0) HG.out hi rfl (irow_one _ _ _) ?_)
  refine bodyPost_ret (results_cell_row rfl _ _ w.heap.size 26 (irow .i8 52 (Plain.dg bt)) (0, 0) _ rfl (setRow_heap _ _ _ _ _ _ HG.out) Trym.underlying26 rfl hi) rfl ⟨rfl, ?_⟩
  exact HB.out.trans ⟨rfl, rfl, rfl, by simp, fun i hi => setRow_other _ _ _ _ (by omega)⟩

end Go.Proofs.Qxb6600581aMods
