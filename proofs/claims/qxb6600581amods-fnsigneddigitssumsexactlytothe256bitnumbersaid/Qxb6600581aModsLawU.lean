import Derived.Test.Qxb6600581aModsDigits
import Derived.Test.Qxb6600581aModsValue
import Derived.Deep.QuietTactic
import Derived.BigQuiet
namespace Go.Proofs.Qxb6600581aMods
open Go.RowKit

theorem hide {p : Prop} (h : p) : Hid p := h
theorem below_drewN {B : Nat} {a w : World} (h : Below B a w) (n : Nat) : Below B a (w.drewN n) := h.trans ⟨rfl, rfl, rfl, Nat.le_refl _, fun _ _ => rfl⟩
theorem Rd.drewN {w : World} {a : Option Addr} {len : Nat} {bt : Nat → Int} (h : Rd w a len bt) (n : Nat) : Rd (w.drewN n) a len bt := h.later (below_drewN (Below.refl _ _) n)

set_option maxHeartbeats 400000 in
theorem lawU_long (a : Option Addr) (len cap : Nat) (w : World) (hm : len ≤ maxLen) (hl : ¬ len ≤ 1048576) :
    Calls Trym.prog 3 #[.slice a len cap] w fun e w' => e = .returned (.bool true) ∧ Below w.heap.size w w' := by
  have hd := decide_eq_false hl
  have hc := bytesU a len cap w hm
  rw [hd] at hc
  have HC := hide hc
  clear hc hd
  go_enter Trym.func3, Trym.ntmps3
  go_wp2_with (go_at_call 6; refine HC.out.mono ?_; rintro e w' ⟨rfl, hw⟩; rw [hw]; clear hw)
  go_ret
  exact ⟨rfl, Below.refl _ _⟩

set_option maxHeartbeats 1000000 in
theorem lawU_short (a : Option Addr) (len cap : Nat) (z : List Int) (w : World) (hr : IsRow .u8 w a len cap z) (hl : len ≤ 1048576) :
    Calls Trym.prog 3 #[.slice a len cap] w fun e w' => e = .returned (.bool true) ∧ Below w.heap.size w w' := by
  have hm : len ≤ maxLen := by unfold maxLen; omega
  have hc := bytesU a len cap w hm
  rw [decide_eq_true hl] at hc
  have HC := hide hc
  have HP := hide (copy_any a len cap z w hr hl)
  clear hc hm hr
  go_enter Trym.func3, Trym.ntmps3
  go_wp2_with (go_at_call 6; refine HC.out.mono ?_; rintro e w' ⟨rfl, hw⟩; rw [hw]; clear hw)
  refine HP.out.mono ?_
  rintro e w1 ⟨a', rfl, hb1, hrd⟩
  have HD := hide (zzdigits_any a' len len (btOf z len) w1 hl hrd)
  have HR : Hid (Rd w1 a' len (btOf z len)) := hrd
  have HB1 : Hid (Below w.heap.size w w1) := hb1
  clear hrd hb1 HC HP
  go_wp2_with fail
  refine HD.out.mono ?_
  rintro e w2 ⟨rfl, hb2⟩
  have HB2 : Hid (Below w1.heap.size w1 w2) := hb2
  clear hb2 HD
  go_wp2_with (refine wpList_store_row rfl 26 (.tmp 3) (.tmp 17) rfl w2.heap.size (irow .i8 52 (Plain.dg (btOf z len))) rfl rfl 26 _ (heap_alloc_new _ _) (by rw [irow_size]; exact size26) rfl (irow_one _ _ _) ?_)
  rw [World.setRow_alloc_new]
  obtain ⟨D, hD⟩ : ∃ D, D = Plain.dg (btOf z len) := ⟨_, rfl⟩
  rw [← hD]
  have HDE : Hid (D = Plain.dg (btOf z len)) := hD
  clear hD
  obtain ⟨W, hW⟩ : ∃ W, W = w2.alloc (.cells (irow .i8 52 D) 26) := ⟨_, rfl⟩
  rw [← hW]
  have HWb : Hid (Below w2.heap.size w2 W) := by rw [hW]; exact (Below.refl _ _).alloc (Nat.le_refl _) _
  have HWs : Hid (w2.heap.size < W.heap.size) := by rw [hW]; show _ < (w2.alloc _).heap.size; simp
  have HWr : Hid (W.heap[w2.heap.size]? = some (.cells (irow .i8 52 D) 26 (0, 0))) := by rw [hW]; exact heap_alloc_new _ _
  clear hW
  go_loop [4] (fun i => ∃ k : Nat, k ≤ 52 ∧ i = .int .i64 k) (fun i => 52 - (intOf i).toNat)
  case atStart => exact ⟨0, by omega, rfl⟩
  case round =>
    obtain ⟨k, hk, rfl⟩ := hrel
    by_cases hlt : k < 52
    · have hcell := irow_cell HWr.out k hlt
      have hbd : -15 ≤ D k ∧ D k ≤ 16 := by rw [HDE.out]; exact Plain.dg_bd _ k
      obtain ⟨hb1, hb2⟩ := hbd
      go_wp2
      go_round
      case rel => exact ⟨k + 1, by omega, by go_num⟩
      case measure => simp [intOf]; omega
    · obtain rfl : k = 52 := by omega
      have HV := hide (value_any D (fun i => by rw [HDE.out]; have := Plain.dg_bd (btOf z len) i; omega) W)
      go_wp2_with (refine wpList_load_row rfl 26 (.tmp 3) rfl w2.heap.size rfl 26 (irow .i8 52 D) (0, 0) _ HWr.out Trym.underlying26 rfl (by rw [irow_size]; exact size26) ?_)
      refine HV.out.mono ?_
      rintro e w3 ⟨rfl, hb3⟩
      have HB3 : Hid (Below W.heap.size W w3) := hb3
      clear hb3 HV
      obtain ⟨A, hA⟩ : ∃ A, A = Plain.acc D 52 := ⟨_, rfl⟩
      rw [← hA]
      have HA : Hid (A = Plain.acc D 52) := hA
      clear hA
      go_wp2_with (refine wpList_store_row rfl 28 (.tmp 5) (.tmp 35) rfl w3.heap.size (irow .i64 34 (Plain.out A)) rfl rfl 28 _ (heap_alloc_new _ _) (row28 _) rfl (irow_one _ _ _) ?_)
      rw [World.setRow_alloc_new]
      obtain ⟨B, hB⟩ : ∃ B, B = btOf z len := ⟨_, rfl⟩
      have hBo : ∀ j, j < 32 → Plain.out A j = B j := by
        intro j hj
        rw [HA.out, HDE.out, hB]
        exact Plain.out_eq _ HR.out.bd j hj
      have hBn : Plain.out A 32 % 16 = B 32 % 16 := by
        rw [HA.out, HDE.out, hB]
        exact Plain.out32 _ HR.out.bd
      have HBo := hide hBo
      have HBn := hide hBn
      have b1 : Below w1.heap.size w1 (w3.alloc (.cells (irow .i64 34 (Plain.out A)) 28)) := by
        have s2 := HB2.out.size
        have s3 := HWs.out
        have s4 := HB3.out.size
        exact ((HB2.out.trans (HWb.out.mono s2)).trans (HB3.out.mono (by omega))).alloc (by omega) _
      have rd : Rd (w3.alloc (.cells (irow .i64 34 (Plain.out A)) 28)) a' len B := by rw [hB]; exact HR.out.later b1
      have b0 : Below w.heap.size w (w3.alloc (.cells (irow .i64 34 (Plain.out A)) 28)) := HB1.out.trans (b1.mono HB1.out.size)
      clear hBo hBn hB HB1 HB2 HB3 HWb HWs HWr HR HDE HA b1
      go_loopw [7] (fun j wr => ∃ k : Nat, k ≤ 32 ∧ j = .int .i64 k ∧ Rd wr a' len B ∧ wr.heap[w3.heap.size]? = some (.cells (irow .i64 34 (Plain.out A)) 28 (0, 0)) ∧ Below w.heap.size w wr) (fun j _ => 32 - (intOf j).toNat)
      case atStart => exact ⟨0, by omega, rfl, rd, heap_alloc_new _ _, b0⟩
      case round =>
        obtain ⟨k, hk, rfl, hrd, hrow, hbel⟩ := hrel
        have RD := hide hrd
        have RW := hide hrow
        have BL := hide hbel
        clear rd b0 hrd hbel
        by_cases hlt : k < 32
        · have hcell := irow_cell hrow k (by omega)
          rw [HBo.out k hlt] at hcell
          clear hrow
          go_wp2
          go_quiet ((go_at_call 10; exact Calls.quiet_of_same (byteAt a' len len B _ k _ rfl (RD.out.drewN _))))
          go_wp2
          go_roundw
          case rel => exact ⟨k + 1, by omega, by go_num, RD.out.drewN _, RW.out, below_drewN BL.out _⟩
          case measure => simp [intOf]; omega
        · obtain rfl : k = 32 := by omega
          have hcell := irow_cell hrow 32 (by omega)
          have ho := Plain.out_bd A 32
          have hB := RD.out.bd 32
          have hne : (bits .and .i64 (Plain.out A 32) 15 != bits .and .i64 (B 32) 15) = false := by
            rw [and15 _ ho.1 (by omega), and15 _ hB.1 (by omega), HBn.out]; simp
          clear hrow ho hB
          go_wp2
          go_quiet ((go_at_call 10; exact Calls.quiet_of_same (byteAt a' len len B _ 32 _ rfl (RD.out.drewN _))))
          go_wp2
          go_ret
          exact ⟨rfl, below_drewN BL.out _⟩

/-- The first law's walk, whole. -/
theorem lawU_any (a : Option Addr) (len cap : Nat) (z : List Int) (w : World) (hr : IsRow .u8 w a len cap z) :
    Calls Trym.prog 3 #[.slice a len cap] w fun e w' => e = .returned (.bool true) ∧ Below w.heap.size w w' := by
  by_cases hl : len ≤ 1048576
  · exact lawU_short a len cap z w hr hl
  · refine lawU_long a len cap w ?_ hl
    rcases hr with ⟨_, rfl, _, _⟩ | ⟨_, _, h1, h2, _⟩
    · exact Nat.zero_le _
    · exact Nat.le_trans h1 h2

end Go.Proofs.Qxb6600581aMods
