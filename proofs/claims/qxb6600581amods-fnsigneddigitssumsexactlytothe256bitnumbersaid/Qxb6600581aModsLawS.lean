import Derived.Test.Qxb6600581aModsLawU
namespace Go.Proofs.Qxb6600581aMods
open Go.RowKit

set_option maxHeartbeats 400000 in
theorem lawS_long (a : Option Addr) (len cap : Nat) (w : World) (hm : len ≤ maxLen) (hl : ¬ len ≤ 1048576) :
    Calls Trym.prog 4 #[.slice a len cap] w fun e w' => e = .returned (.bool true) ∧ Below w.heap.size w w' := by
  have hd := decide_eq_false hl
  have hc := bytesS a len cap w hm
  rw [hd] at hc
  have HC := hide hc
  clear hc hd
  go_enter Trym.func4, Trym.ntmps4
  go_wp2_with (go_at_call 11; refine HC.out.mono ?_; rintro e w' ⟨rfl, hw⟩; rw [hw]; clear hw)
  go_ret
  exact ⟨rfl, Below.refl _ _⟩

set_option maxHeartbeats 1000000 in
theorem lawS_short (a : Option Addr) (len cap : Nat) (z : List Int) (w : World) (hr : IsRow .u8 w a len cap z) (hl : len ≤ 1048576) :
    Calls Trym.prog 4 #[.slice a len cap] w fun e w' => e = .returned (.bool true) ∧ Below w.heap.size w w' := by
  have hm : len ≤ maxLen := by unfold maxLen; omega
  have hc := bytesS a len cap w hm
  rw [decide_eq_true hl] at hc
  have HC := hide hc
  have HP := hide (copy_any a len cap z w hr hl)
  have HI := hide hr
  clear hc hm hr
  go_enter Trym.func4, Trym.ntmps4
  go_wp2_with (go_at_call 11; refine HC.out.mono ?_; rintro e w' ⟨rfl, hw⟩; rw [hw]; clear hw)
  go_loop [3] (fun j => ∃ k : Nat, 32 ≤ k ∧ (k ≤ len ∨ k = 32) ∧ j = .int .i64 k ∧ ∀ i, 32 ≤ i → i < k → z.getD i 0 = 0) (fun j => len - (intOf j).toNat)
  case atStart => exact ⟨32, by omega, Or.inr rfl, rfl, fun i h1 h2 => by omega⟩
  case round =>
    obtain ⟨k, hk, hk2, rfl, hz⟩ := hrel
    have HZ := hide hz
    clear hz
    by_cases hlt : k < len
    · rcases HI.out with ⟨_, rfl, _, _⟩ | ⟨x, rfl, h1, _, h3, hcl, hwf⟩
      · omega
      · obtain ⟨b, off, spot⟩ := x
        have hck := hcl k (by omega)
        obtain rfl : spot = none := by simpa [Addr.add] using World.cell?_spot (hcl 0 (by omega))
        rw [Addr.add_lit] at hck
        clear hcl hwf HP HI HC h3
        by_cases h0 : z.getD k 0 = 0
        · have H0 := hide h0
          rw [h0] at hck
          clear h0
          go_wp2
          go_round
          case rel => exact ⟨k + 1, by omega, Or.inl (by omega), by go_num, fun i a1 a2 => by by_cases e : i = k; · rw [e]; exact H0.out
                                                                                              · exact HZ.out i a1 (by omega)⟩
          case measure => simp [intOf]; omega
        · obtain ⟨v, hv⟩ : ∃ v, v = z.getD k 0 := ⟨_, rfl⟩
          rw [← hv] at hck h0
          have hne : (v != 0) = true := by simpa using h0
          clear hv h0
          go_wp2
          go_ret
          exact ⟨rfl, Below.refl _ _⟩
    · have HB32 : Hid (btOf z len 32 = 0) := by
        show btOf z len 32 = 0
        unfold btOf
        split
        · exact HZ.out 32 (by omega) (by omega)
        · rfl
      clear HI HZ hk2
      go_wp2_with fail
      refine HP.out.mono ?_
      rintro e w1 ⟨a', rfl, hb1, hrd⟩
      have HD := hide (zzdigits_any a' len len (btOf z len) w1 hl hrd)
      have HR : Hid (Rd w1 a' len (btOf z len)) := hrd
      have HB1 : Hid (Below w.heap.size w w1) := hb1
      clear hrd hb1 HC HP
      go_wp2_with fail
      refine HD.out.mono ?_
      rintro e w2 ⟨rfl, hb2⟩
      have HB2 : Hid (Below w1.heap.size w1 w2) := hb2
      clear hb2 HD
      obtain ⟨D, hD⟩ : ∃ D, D = Plain.dg (btOf z len) := ⟨_, rfl⟩
      rw [← hD]
      have HDE : Hid (D = Plain.dg (btOf z len)) := hD
      clear hD
      obtain ⟨W, hW⟩ : ∃ W, W = w2.alloc (.cells (irow .i8 52 D) 26) := ⟨_, rfl⟩
      have HWE := hide hW
      have HWb : Hid (Below w2.heap.size w2 W) := by rw [hW]; exact (Below.refl _ _).alloc (Nat.le_refl _) _
      have HWs : Hid (w2.heap.size < W.heap.size) := by rw [hW]; show _ < (w2.alloc _).heap.size; simp
      have HWr : Hid (W.heap[w2.heap.size]? = some (.cells (irow .i8 52 D) 26 (0, 0))) := by rw [hW]; exact heap_alloc_new _ _
      clear hW
      have HV := hide (value_any D (fun i => by rw [HDE.out]; have := Plain.dg_bd (btOf z len) i; omega) W)
      go_wp2_with (first | (refine wpList_store_row rfl 26 (.tmp 4) (.tmp 28) rfl w2.heap.size (irow .i8 52 D) rfl rfl 26 _ (heap_alloc_new _ _) (by rw [irow_size]; exact size26) rfl (irow_one _ _ _) ?_; rw [World.setRow_alloc_new, ← HWE.out]) | (refine wpList_load_row rfl 26 (.tmp 4) rfl w2.heap.size rfl 26 (irow .i8 52 D) (0, 0) _ HWr.out Trym.underlying26 rfl (by rw [irow_size]; exact size26) ?_))
      refine HV.out.mono ?_
      rintro e w3 ⟨rfl, hb3⟩
      have HB3 : Hid (Below W.heap.size W w3) := hb3
      clear hb3 HV HWE
      obtain ⟨A, hA⟩ : ∃ A, A = Plain.acc D 52 := ⟨_, rfl⟩
      rw [← hA]
      have HA : Hid (A = Plain.acc D 52) := hA
      clear hA
      go_wp2_with (refine wpList_store_row rfl 28 (.tmp 5) (.tmp 32) rfl w3.heap.size (irow .i64 34 (Plain.out A)) rfl rfl 28 _ (heap_alloc_new _ _) (row28 _) rfl (irow_one _ _ _) ?_)
      rw [World.setRow_alloc_new]
      obtain ⟨B, hB⟩ : ∃ B, B = btOf z len := ⟨_, rfl⟩
      have hBo : ∀ j, j < 32 → Plain.out A j = B j := by
        intro j hj
        rw [HA.out, HDE.out, hB]
        exact Plain.out_eq _ HR.out.bd j hj
      have hT : Plain.out A 32 = 0 ∧ Plain.out A 33 = 0 ∧ Plain.car A 34 = 0 ∧ 0 ≤ D 51 ∧ D 51 ≤ 2 := by
        rw [HA.out, HDE.out]
        exact Plain.top _ HR.out.bd HB32.out
      have HBo := hide hBo
      have HT := hide hT
      have b1 : Below w1.heap.size w1 (w3.alloc (.cells (irow .i64 34 (Plain.out A)) 28)) := by
        have s2 := HB2.out.size
        have s3 := HWs.out
        have s4 := HB3.out.size
        exact ((HB2.out.trans (HWb.out.mono s2)).trans (HB3.out.mono (by omega))).alloc (by omega) _
      have rd : Rd (w3.alloc (.cells (irow .i64 34 (Plain.out A)) 28)) a' len B := by rw [hB]; exact HR.out.later b1
      have b0 : Below w.heap.size w (w3.alloc (.cells (irow .i64 34 (Plain.out A)) 28)) := HB1.out.trans (b1.mono HB1.out.size)
      have rw3 : (w3.alloc (.cells (irow .i64 34 (Plain.out A)) 28)).heap[w2.heap.size]? = some (.cells (irow .i8 52 D) 26 (0, 0)) := by
        have s3 := HWs.out
        have s4 := HB3.out.size
        rw [Below.heap_alloc _ _ _ (by omega), HB3.out.block _ s3]
        exact HWr.out
      clear hBo hT hB HB1 HB2 HB3 HWb HWs HWr HR HDE HA b1 HB32
      go_loopw [7] (fun j wr => ∃ k : Nat, k ≤ 32 ∧ j = .int .i64 k ∧ Rd wr a' len B ∧ wr.heap[w3.heap.size]? = some (.cells (irow .i64 34 (Plain.out A)) 28 (0, 0)) ∧ wr.heap[w2.heap.size]? = some (.cells (irow .i8 52 D) 26 (0, 0)) ∧ Below w.heap.size w wr) (fun j _ => 32 - (intOf j).toNat)
      case atStart => exact ⟨0, by omega, rfl, rd, heap_alloc_new _ _, rw3, b0⟩
      case round =>
        obtain ⟨k', hk', rfl, hrd, hrow, hrow2, hbel⟩ := hrel
        have RD := hide hrd
        have RW := hide hrow
        have RW2 := hide hrow2
        have BL := hide hbel
        clear rd b0 rw3 hrd hbel
        by_cases hlt' : k' < 32
        · have hcell := irow_cell hrow k' (by omega)
          rw [HBo.out k' hlt'] at hcell
          clear hrow hrow2
          go_wp2
          go_quiet ((go_at_call 10; exact Calls.quiet_of_same (byteAt a' len len B _ k' _ rfl (RD.out.drewN _))))
          go_wp2
          go_roundw
          case rel => exact ⟨k' + 1, by omega, by go_num, RD.out.drewN _, RW.out, RW2.out, below_drewN BL.out _⟩
          case measure => simp [intOf]; omega
        · obtain rfl : k' = 32 := by omega
          have hc32 := irow_cell hrow 32 (by omega)
          have hc33 := irow_cell hrow 33 (by omega)
          have hd51 := irow_cell hrow2 51 (by omega)
          obtain ⟨t1, t2, t3, t4, t5⟩ := HT.out
          rw [t1] at hc32
          rw [t2] at hc33
          rw [t3]
          clear hrow hrow2 t1 t2 t3 HT HBo
          go_wp2
          go_ret
          exact ⟨rfl, BL.out⟩

/-- The second law's walk, whole. -/
theorem lawS_any (a : Option Addr) (len cap : Nat) (z : List Int) (w : World) (hr : IsRow .u8 w a len cap z) :
    Calls Trym.prog 4 #[.slice a len cap] w fun e w' => e = .returned (.bool true) ∧ Below w.heap.size w w' := by
  by_cases hl : len ≤ 1048576
  · exact lawS_short a len cap z w hr hl
  · refine lawS_long a len cap w ?_ hl
    rcases hr with ⟨_, rfl, _, _⟩ | ⟨_, _, h1, h2, _⟩
    · exact Nat.zero_le _
    · exact Nat.le_trans h1 h2

end Go.Proofs.Qxb6600581aMods
