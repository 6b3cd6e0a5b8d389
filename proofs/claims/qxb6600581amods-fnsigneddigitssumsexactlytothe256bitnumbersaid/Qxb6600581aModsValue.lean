import Derived.Test.Qxb6600581aModsArith
import Derived.Test.Qxb6600581aModsSmall
import Derived.Laws.ResultCell
namespace Go.Proofs.Qxb6600581aMods
open Go.RowKit

def zrow : Array Value := irow .i64 34 fun _ => 0
theorem zrow_lit : zrow = #[.int .i64 0, .int .i64 0, .int .i64 0, .int .i64 0, .int .i64 0, .int .i64 0, .int .i64 0, .int .i64 0, .int .i64 0, .int .i64 0, .int .i64 0, .int .i64 0, .int .i64 0, .int .i64 0, .int .i64 0, .int .i64 0, .int .i64 0,
    .int .i64 0, .int .i64 0, .int .i64 0, .int .i64 0, .int .i64 0, .int .i64 0, .int .i64 0, .int .i64 0, .int .i64 0, .int .i64 0, .int .i64 0, .int .i64 0, .int .i64 0, .int .i64 0, .int .i64 0, .int .i64 0, .int .i64 0] := rfl
theorem zrow_acc (d : Nat → Int) : zrow = irow .i64 34 (Plain.acc d 0) := rfl


theorem rel1_next {d : Nat → Int} {k : Nat} {w wr : World} {v : Int} (hk : k < 52) (hb : Below w.heap.size w wr) (hs : w.heap.size + 3 = wr.heap.size)
    (h0 : wr.heap[w.heap.size]? = some (.cells (irow .i8 52 d) 26 (0, 0))) (h1 : wr.heap[w.heap.size + 1]? = some (.cells zrow 28 (0, 0)))
    (h2 : wr.heap[w.heap.size + 2]? = some (.cells (irow .i64 34 (Plain.acc d k)) 28 (0, 0))) (hv : v = Plain.acc d k (5 * k / 8) + d k * 2 ^ (5 * k % 8)) :
    ∃ k' : Nat, k' ≤ 52 ∧ Value.int .i64 ((k : Int) + 1) = .int .i64 k' ∧ Below w.heap.size w (wr.setCell ⟨w.heap.size + 1 + 1, 5 * k / 8, none⟩ (.int .i64 v)).drew ∧
      w.heap.size + 3 = (wr.setCell ⟨w.heap.size + 1 + 1, 5 * k / 8, none⟩ (.int .i64 v)).drew.heap.size ∧
      (wr.setCell ⟨w.heap.size + 1 + 1, 5 * k / 8, none⟩ (.int .i64 v)).drew.heap[w.heap.size]? = some (.cells (irow .i8 52 d) 26 (0, 0)) ∧
      (wr.setCell ⟨w.heap.size + 1 + 1, 5 * k / 8, none⟩ (.int .i64 v)).drew.heap[w.heap.size + 1]? = some (.cells zrow 28 (0, 0)) ∧
      (wr.setCell ⟨w.heap.size + 1 + 1, 5 * k / 8, none⟩ (.int .i64 v)).drew.heap[w.heap.size + 2]? = some (.cells (irow .i64 34 (Plain.acc d k')) 28 (0, 0)) := by
  refine ⟨k + 1, by omega, by go_num, (hb.setCell (by show _ ≤ w.heap.size + 1 + 1; omega) _).drew, by simpa [heap_drew] using hs, ?_, ?_, ?_⟩
  · rw [heap_drew, heap_setCell_other _ _ _ _ (by show _ ≠ w.heap.size + 1 + 1; omega)]; exact h0
  · rw [heap_drew, heap_setCell_other _ _ _ _ (by show _ ≠ w.heap.size + 1 + 1; omega)]; exact h1
  · rw [heap_drew]
    exact irow_store h2 (5 * k / 8) v (fun i _ => by
      show Plain.acc d k i + (if i = 5 * k / 8 then d k * 2 ^ (5 * k % 8) else 0) = _
      by_cases e : i = 5 * k / 8
      · rw [if_pos e, if_pos e, hv, e]
      · rw [if_neg e, if_neg e, Int.add_zero])

theorem rel2_next {a : Nat → Int} {k : Nat} {w wr : World} {v c : Int} (hk : k < 34) (hb : Below w.heap.size w wr) (hs : w.heap.size + 4 = wr.heap.size)
    (h1 : wr.heap[w.heap.size + 1]? = some (.cells zrow 28 (0, 0))) (h2 : wr.heap[w.heap.size + 2]? = some (.cells (irow .i64 34 a) 28 (0, 0)))
    (h3 : wr.heap[w.heap.size + 3]? = some (.cells (irow .i64 34 fun i => if i < k then Plain.out a i else 0) 28 (0, 0))) (hv : v = Plain.out a k) (hc : c = Plain.car a (k + 1)) :
    ∃ k' : Nat, k' ≤ 34 ∧ Value.int .i64 ((k : Int) + 1) = .int .i64 k' ∧ Value.int .i64 c = .int .i64 (Plain.car a k') ∧ Below w.heap.size w (wr.setCell ⟨w.heap.size + 3, k, none⟩ (.int .i64 v)) ∧
      w.heap.size + 4 = (wr.setCell ⟨w.heap.size + 3, k, none⟩ (.int .i64 v)).heap.size ∧
      (wr.setCell ⟨w.heap.size + 3, k, none⟩ (.int .i64 v)).heap[w.heap.size + 1]? = some (.cells zrow 28 (0, 0)) ∧
      (wr.setCell ⟨w.heap.size + 3, k, none⟩ (.int .i64 v)).heap[w.heap.size + 2]? = some (.cells (irow .i64 34 a) 28 (0, 0)) ∧
      (wr.setCell ⟨w.heap.size + 3, k, none⟩ (.int .i64 v)).heap[w.heap.size + 3]? = some (.cells (irow .i64 34 fun i => if i < k' then Plain.out a i else 0) 28 (0, 0)) := by
  refine ⟨k + 1, by omega, by go_num, by rw [hc], hb.setCell (by show _ ≤ w.heap.size + 3; omega) _, by simpa using hs, ?_, ?_, ?_⟩
  · rw [heap_setCell_other _ _ _ _ (by show _ ≠ w.heap.size + 3; omega)]; exact h1
  · rw [heap_setCell_other _ _ _ _ (by show _ ≠ w.heap.size + 3; omega)]; exact h2
  · exact irow_store h3 k v (fun i _ => by
      by_cases e : i = k
      · subst e; simp [hv]
      · by_cases e2 : i < k
        · simp [e, e2, show i < k + 1 by omega]
        · simp [e, e2, show ¬ i < k + 1 by omega])

theorem size28 : (Trym.prog.info? 28).map (·.size) = some 34 := by kernel_rfl
theorem row28 (f : Nat → Int) : (Trym.prog.info? 28).map (·.size) = some (irow .i64 34 f).size := by rw [irow_size]; exact size28

set_option maxHeartbeats 1000000 in
theorem value_any (d : Nat → Int) (hd : ∀ i, -128 ≤ d i ∧ d i ≤ 127) (w : World) :
    Calls Trym.prog 9 #[.agg (irow .i8 52 d)] w fun e w' => e = .returned (.tuple #[.agg (irow .i64 34 (Plain.out (Plain.acc d 52))), .int .i64 (Plain.car (Plain.acc d 52) 34)]) ∧ Below w.heap.size w w' := by
  have HD : Hid (∀ i, -128 ≤ d i ∧ d i ≤ 127) := hd
  clear hd
  go_enter Trym.func9, Trym.ntmps9
  go_wp2
  rw [← zrow_lit]
  go_loopw [5] (fun i wr => ∃ k : Nat, k ≤ 52 ∧ i = .int .i64 k ∧ Below w.heap.size w wr ∧ w.heap.size + 3 = wr.heap.size ∧ wr.heap[w.heap.size]? = some (.cells (irow .i8 52 d) 26 (0, 0)) ∧
      wr.heap[w.heap.size + 1]? = some (.cells zrow 28 (0, 0)) ∧ wr.heap[w.heap.size + 2]? = some (.cells (irow .i64 34 (Plain.acc d k)) 28 (0, 0))) (fun i _ => 52 - (intOf i).toNat)
  case atStart =>
    refine ⟨0, by omega, rfl, (((Below.refl _ _).alloc (Nat.le_refl _) _).alloc (by simp) _).alloc (by simp; omega) _, by simp, ?_, ?_, ?_⟩
    · rw [Below.heap_alloc _ _ _ (by simp; omega)]; exact heap_alloc2_old _ _ _
    · rw [Below.heap_alloc _ _ _ (by simp)]; exact heap_alloc2_new _ _ _
    · have h := heap_alloc2_new (w.alloc (.cells (irow .i8 52 d) 26)) (.cells zrow 28) (.cells zrow 28)
      have e : (w.alloc (.cells (irow .i8 52 d) 26)).heap.size + 1 = w.heap.size + 2 := by simp
      rw [e] at h
      rw [← zrow_acc]
      exact h
  case round =>
    obtain ⟨k, hk, rfl, hbel, hsz, hr0, hr1, hr2⟩ := hrel
    have HB : Hid (Below w.heap.size w wr) := hbel
    have H0 : Hid (wr.heap[w.heap.size]? = some (.cells (irow .i8 52 d) 26 (0, 0))) := hr0
    have H1 : Hid (wr.heap[w.heap.size + 1]? = some (.cells zrow 28 (0, 0))) := hr1
    have H2 : Hid (wr.heap[w.heap.size + 2]? = some (.cells (irow .i64 34 (Plain.acc d k)) 28 (0, 0))) := hr2
    have HS : Hid (w.heap.size + 3 = wr.heap.size) := hsz
    by_cases hlt : k < 52
    · have hfz := frozen_of_row wr (w.heap.size + 2) (5 * k / 8) _ _ hr2
      have hown := irow_cell hr2 (5 * k / 8) (by omega)
      have hdk := irow_cell hr0 k hlt
      have bd := HD.out k
      have ba := Plain.acc_bd d HD.out k (5 * k / 8)
      have EQ : Hid (wrap64 (Plain.acc d k (5 * k / 8) + wrap64 (d k * wrap64 (2 ^ (5 * k % 8)))) = Plain.acc d k (5 * k / 8) + d k * 2 ^ (5 * k % 8)) := add_eq _ _ k (by omega) bd
      clear hr0 hr1 hr2 hbel hsz
      go_wp2
      go_region
      all_goals
        go_wp2
        go_roundw
        case rel => exact rel1_next hlt HB.out HS.out H0.out H1.out H2.out EQ.out
        case measure => simp [intOf]; omega
    · obtain rfl : k = 52 := by omega
      have hAb : Hid (∀ j, -1000000 ≤ Plain.acc d 52 j ∧ Plain.acc d 52 j ≤ 1000000) := fun j => by have := Plain.acc_bd d HD.out 52 j; omega
      clear hr0 hr1 hr2 hbel hsz H0 HD
      obtain ⟨A, hA⟩ : ∃ A, A = Plain.acc d 52 := ⟨_, rfl⟩
      rw [← hA] at H2 hAb
      have HA : Hid (A = Plain.acc d 52) := hA
      clear hA
      go_wp2
      rw [← zrow_lit, ← HS.out]
      go_loopw [8, 9] (fun c j wx => ∃ k : Nat, k ≤ 34 ∧ j = .int .i64 k ∧ c = .int .i64 (Plain.car A k) ∧ Below w.heap.size w wx ∧ w.heap.size + 4 = wx.heap.size ∧ wx.heap[w.heap.size + 1]? = some (.cells zrow 28 (0, 0)) ∧
          wx.heap[w.heap.size + 2]? = some (.cells (irow .i64 34 A) 28 (0, 0)) ∧ wx.heap[w.heap.size + 3]? = some (.cells (irow .i64 34 fun i => if i < k then Plain.out A i else 0) 28 (0, 0))) (fun _ j _ => 34 - (intOf j).toNat)
      case atStart =>
        have hs := HS.out
        refine ⟨0, by omega, rfl, rfl, HB.out.alloc (by omega) _, by simp; omega, ?_, ?_, ?_⟩
        · rw [Below.heap_alloc _ _ _ (by omega)]; exact H1.out
        · rw [Below.heap_alloc _ _ _ (by omega)]; exact H2.out
        · rw [hs]; exact heap_alloc_new _ _
      case round =>
        obtain ⟨k, hk, rfl, rfl, hbel, hsz, hr1, hr2, hr3⟩ := hrel
        clear HB HS H1 H2
        have HB : Hid (Below w.heap.size w wr) := hbel
        have H1 : Hid (wr.heap[w.heap.size + 1]? = some (.cells zrow 28 (0, 0))) := hr1
        have H2 : Hid (wr.heap[w.heap.size + 2]? = some (.cells (irow .i64 34 A) 28 (0, 0))) := hr2
        have H3 : Hid (wr.heap[w.heap.size + 3]? = some (.cells (irow .i64 34 fun i => if i < k then Plain.out A i else 0) 28 (0, 0))) := hr3
        have HS : Hid (w.heap.size + 4 = wr.heap.size) := hsz
        by_cases hlt2 : k < 34
        · have hfz := frozen_of_row wr (w.heap.size + 3) k _ _ hr3
          have hown : ∃ v, wr.cell? ⟨w.heap.size + 3, k, none⟩ = some (.int .i64 v) := ⟨_, irow_cell hr3 k hlt2⟩
          obtain ⟨v0, hown⟩ := hown
          have hak := irow_cell hr2 k hlt2
          have ba := hAb.out k
          have bc := Plain.car_bd A hAb.out k
          clear hr1 hr2 hr3 hbel hsz
          go_wp2
          · have h : (A k + Plain.car A k).tmod 256 < 0 := by assumption
            have E := m_neg (v := A k + Plain.car A k) (by omega) h
            go_roundw
            case rel => exact rel2_next hlt2 HB.out HS.out H1.out H2.out H3.out E.1 E.2
            case measure => simp [intOf]; omega
          · have h : 0 ≤ (A k + Plain.car A k).tmod 256 := by assumption
            have E := m_pos (v := A k + Plain.car A k) (by omega) h
            go_roundw
            case rel => exact rel2_next hlt2 HB.out HS.out H1.out H2.out H3.out E.1 E.2
            case measure => simp [intOf]; omega
        · obtain rfl : k = 34 := by omega
          have e3 : (irow .i64 34 fun i => if i < 34 then Plain.out A i else 0) = irow .i64 34 (Plain.out A) := irow_congr fun i hi => by simp [hi]
          rw [e3] at hr3
          have H3 : Hid (wr.heap[w.heap.size + 3]? = some (.cells (irow .i64 34 (Plain.out A)) 28 (0, 0))) := hr3
          clear hr1 hr2 hr3 hbel hsz e3
          go_wp2_with (first | (refine wpList_load_row rfl 28 (.tmp 7) rfl (w.heap.size + 3) rfl 28 (irow .i64 34 (Plain.out A)) (0, 0) _ H3.out Trym.underlying28 rfl (row28 _) ?_) | (refine wpList_store_row rfl 28 (.tmp 2) (.tmp 55) rfl (w.heap.size + 1) (irow .i64 34 (Plain.out A)) rfl rfl 28 zrow H1.out (row28 _) rfl (irow_one _ _ _) ?_))
          refine bodyPost_ret (v := .tuple #[.agg (irow .i64 34 (Plain.out A)), .int .i64 (Plain.car A 34)]) ?_ rfl ⟨by rw [HA.out], HB.out.trans ⟨rfl, rfl, rfl, by simp, fun i hi => setRow_other _ _ _ _ (by omega)⟩⟩
          rw [results_cell_tmp rfl]
          have hld := run_loadVar_row (P := Trym.prog) _ (w.heap.size + 1) 28 28 _ (0, 0) _ (setRow_heap _ _ _ (irow .i64 34 (Plain.out A)) _ _ H1.out) Trym.underlying28 rfl (row28 _)
          simp [asAddr, Result.andThen, hld]
end Go.Proofs.Qxb6600581aMods
