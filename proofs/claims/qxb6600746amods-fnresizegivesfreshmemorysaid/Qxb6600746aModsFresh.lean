import Derived.Test.Qxb6600746aModsParts
namespace Go.Proofs.Qxb6600746aMods
open Go.RowKit

set_option maxHeartbeats 400000 in
set_option maxRecDepth 100000 in
theorem fresh_long (a b : Option Addr) (la ca lb cb : Nat) (v : Int) (w : World) (ha : la ≤ maxLen) (hb : lb ≤ maxLen) (hl : ¬ la + lb ≤ 1048576) :
    Calls Trym.prog 4 #[.slice a la ca, .int .i64 v, .slice b lb cb] w fun e w' => e = .returned (.bool true) ∧ Below w.heap.size w w' := by
  have hc := bytesF_any a b la ca lb cb v w ha hb
  rw [decide_eq_false hl] at hc
  have HC := hide hc
  clear hc hl
  go_enter Trym.func4, Trym.ntmps4
  go_wp2_with (go_at_call 8; refine HC.out.mono ?_; rintro e w' ⟨rfl, hw⟩; rw [hw]; clear hw)
  go_ret
  exact ⟨rfl, Below.refl _ _⟩

set_option maxHeartbeats 400000 in
set_option maxRecDepth 100000 in
theorem fresh_out (a b : Option Addr) (la ca lb cb : Nat) (v : Int) (w : World) (hl : la + lb ≤ 1048576) (hv : v < la ∨ 65536 < v) :
    Calls Trym.prog 4 #[.slice a la ca, .int .i64 v, .slice b lb cb] w fun e w' => e = .returned (.bool true) ∧ Below w.heap.size w w' := by
  have hc := bytesF_any a b la ca lb cb v w (by unfold maxLen; omega) (by unfold maxLen; omega)
  rw [decide_eq_true hl] at hc
  have HC := hide hc
  clear hc
  by_cases h : v < (la : Int)
  · clear hv
    go_enter Trym.func4, Trym.ntmps4
    go_wp2_with (go_at_call 8; refine HC.out.mono ?_; rintro e w' ⟨rfl, hw⟩; rw [hw]; clear hw)
    go_ret
    exact ⟨rfl, Below.refl _ _⟩
  · have h2 : 65536 < v := by omega
    clear hv
    go_enter Trym.func4, Trym.ntmps4
    go_wp2_with (go_at_call 8; refine HC.out.mono ?_; rintro e w' ⟨rfl, hw⟩; rw [hw]; clear hw)
    go_ret
    exact ⟨rfl, Below.refl _ _⟩

set_option maxHeartbeats 2000000 in
set_option maxRecDepth 100000 in
theorem fresh_in (a b : Option Addr) (n ca m cb s : Nat) (f g : Nat → Int) (w : World) (hl : n + m ≤ 1048576) (hn : n ≤ s) (hs : s ≤ 65536) (hra : Src w a n f) (hrb : Src w b m g) (hf : ∀ i, 0 ≤ f i ∧ f i ≤ 255) :
    Calls Trym.prog 4 #[.slice a n ca, .int .i64 (s : Int), .slice b m cb] w fun e w' => e = .returned (.bool true) ∧ Below w.heap.size w w' := by
  have hc := bytesF_any a b n ca m cb (s : Int) w (by unfold maxLen; omega) (by unfold maxLen; omega)
  rw [decide_eq_true hl] at hc
  have HC := hide hc
  have HA := hide hra
  have HE := hide hrb
  have HF := hide hf
  have hmk := fun w => mk_sum s m (by omega) w
  clear hc hra hrb hf
  go_enter Trym.func4, Trym.ntmps4
  go_wp2_with (go_at_call 8; refine HC.out.mono ?_; rintro e w' ⟨rfl, hw⟩; rw [hw]; clear hw)
  clear hmk HC
  go_loopw [10] (fun i wr => ∃ k : Nat, k ≤ n ∧ i = .int .i64 k ∧ Below w.heap.size w wr ∧ wr.heap[w.heap.size]? = some (.cells (irow .u8 (s + m) fun j => if j < k then f j else 0) 5 (0, 0))) (fun i _ => n - (intOf i).toNat)
  case atStart => exact ⟨0, Nat.zero_le _, rfl, (Below.refl _ _).alloc (Nat.le_refl _) _, heap_alloc_new _ _⟩
  case round =>
    obtain ⟨k, hk, rfl, hbel, hrow⟩ := hrel
    have HB := hide hbel
    have HW := hide hrow
    by_cases hlt : k < n
    · obtain ⟨b0, off, rfl, hb, hc⟩ := HA.out (by omega)
      have hx : wr.cell? ⟨b0, off + k, none⟩ = some (.int .u8 (f k)) := (hbel.cell (by exact hb)).trans (hc k hlt)
      obtain ⟨v0, hown⟩ : ∃ v, wr.cell? ⟨w.heap.size, k, none⟩ = some (.int .u8 v) := ⟨_, irow_cell hrow k (by omega)⟩
      have hfz := frozen_of_row wr w.heap.size k _ _ hrow
      clear hrow hbel hc HA HE
      go_wp2
      go_roundw
      case rel => exact ⟨k + 1, by omega, by go_num, HB.out.setCell (by exact Nat.le_refl _) _, irow_store HW.out k _ (fun i _ => by
        by_cases e : i = k
        · subst e; simp
        · by_cases e2 : i < k
          · simp [e, e2, show i < k + 1 by omega]
          · simp [e, e2, show ¬ i < k + 1 by omega])⟩
      case measure => simp [intOf]; omega
    · obtain rfl : n = k := by omega
      clear hrow hbel hlt hk
      go_wp2
      have hrow0 : wr.heap[w.heap.size]? = some (.cells (irow .u8 (s + m) (arrF f g n s 0)) 5 (0, 0)) := by
        rw [HW.out]; congr 2; exact irow_congr fun i _ => (arrF_zero f g n s i).symm
      have H0 := hide hrow0
      clear HW hrow0
      go_loopw [11] (fun i wr => ∃ k : Nat, k ≤ m ∧ i = .int .i64 k ∧ Below w.heap.size w wr ∧ wr.heap[w.heap.size]? = some (.cells (irow .u8 (s + m) (arrF f g n s k)) 5 (0, 0))) (fun i _ => m - (intOf i).toNat)
      case atStart => exact ⟨0, Nat.zero_le _, rfl, HB.out, H0.out⟩
      case round =>
        clear HB H0
        obtain ⟨k, hk, rfl, hbel, hrow⟩ := hrel
        have HB := hide hbel
        have HW := hide hrow
        by_cases hlt : k < m
        · obtain ⟨b0, off, rfl, hb, hc⟩ := HE.out (by omega)
          have hx : wr.cell? ⟨b0, off + k, none⟩ = some (.int .u8 (g k)) := (hbel.cell (by exact hb)).trans (hc k hlt)
          obtain ⟨v0, hown⟩ : ∃ v, wr.cell? ⟨w.heap.size, s + k, none⟩ = some (.int .u8 v) := ⟨_, irow_cell hrow (s + k) (by omega)⟩
          have hfz := frozen_of_row wr w.heap.size (s + k) _ _ hrow
          clear hrow hbel hc HA HE
          go_wp2
          go_roundw
          case rel => exact ⟨k + 1, by omega, by go_num, HB.out.setCell (by exact Nat.le_refl _) _, irow_store HW.out (s + k) _ (fun i _ => arrF_next f g n s k i hn)⟩
          case measure => simp [intOf]; omega
        · obtain rfl : m = k := by omega
          have C1 := hide (copy_any a n ca f wr (by omega) (HA.out.later (hbel.mono (Nat.le_refl _))))
          clear hrow hbel hlt hk
          go_wp2_with fail
          refine C1.out.mono ?_
          rintro e w2 ⟨rfl, hb2, hr2⟩
          have B2 : Hid (Below w.heap.size w w2) := HB.out.trans (hb2.mono HB.out.size)
          have hN : w.heap.size < wr.heap.size := (Array.getElem?_eq_some_iff.1 HW.out).1
          have R2 : Hid (w2.heap[w.heap.size]? = some (.cells (irow .u8 (s + m) (arrF f g n s m)) 5 (0, 0))) := (hb2.block _ hN).trans HW.out
          have W2 := hide hr2
          have C2 := hide (copy_any b m cb g w2 (by omega) (HE.out.later (B2.out.mono (Nat.le_refl _))))
          clear hb2 hr2 hN HB HW C1 HA HE
          go_wp2_with fail
          refine C2.out.mono ?_
          rintro e w3 ⟨rfl, hb3, hr3⟩
          have s1 : w.heap.size < w2.heap.size := (Array.getElem?_eq_some_iff.1 R2.out).1
          have s2 : wr.heap.size < w2.heap.size := (Array.getElem?_eq_some_iff.1 W2.out).1
          have B3 : Hid (Below w.heap.size w w3) := B2.out.trans (hb3.mono B2.out.size)
          have R3 : Hid (w3.heap[w.heap.size]? = some (.cells (irow .u8 (s + m) (arrF f g n s m)) 5 (0, 0))) := (hb3.block _ s1).trans R2.out
          have W3 : Hid (w3.heap[wr.heap.size]? = some (.cells (irow .u8 n f) 5 (0, 0))) := (hb3.block _ s2).trans W2.out
          have E3 := hide hr3
          clear hb3 hr3 s1 s2 B2 R2 W2 C2
          obtain ⟨E, hE, hcut⟩ := cut_end w.heap.size s m
          have HCE := hide hE
          clear hE
          go_wp2_with fail
          have s1 : w.heap.size < w3.heap.size := (Array.getElem?_eq_some_iff.1 R3.out).1
          have s2 : wr.heap.size < w3.heap.size := (Array.getElem?_eq_some_iff.1 W3.out).1
          have s3 : w2.heap.size < w3.heap.size := (Array.getElem?_eq_some_iff.1 E3.out).1
          have C6 := hide (zzresize_any (some ⟨w.heap.size, 0, none⟩) n s s f w3 hn hs (Src.own R3.out (by omega) (fun i hi => by simp [arrF, hi])))
          have S3 : Hid (St w w3 wr.heap.size w2.heap.size n s m f g) := ⟨B3.out, R3.out, W3.out, E3.out⟩
          refine C6.out.mono ?_
          rintro e w4 ⟨rfl, hb4, hr4⟩
          have S4 : Hid (St w w4 wr.heap.size w2.heap.size n s m f g) := S3.out.later s1 s2 s3 hb4
          have N4 : Hid (w4.heap[w3.heap.size]? = some (.cells (irow .u8 s (nbF f n 0)) 5 (0, 0))) := by
            show _ = _
            rw [hr4]; congr 2
          have HL := hide (And.intro s1 (And.intro s2 s3))
          clear hb4 hr4 C6 B3 R3 W3 E3 S3 s1 s2 s3 hcut
          generalize w3.heap.size = G3 at N4 HL ⊢
          generalize w2.heap.size = G2 at S4 HL ⊢
          generalize wr.heap.size = G1 at S4 HL ⊢
          go_wp2
          go_loopw [17] (fun i wr => ∃ k : Nat, k ≤ n ∧ i = .int .i64 k ∧ St w wr G1 G2 n s m f g ∧ wr.heap[G3]? = some (.cells (irow .u8 s (nbF f n k)) 5 (0, 0))) (fun i _ => n - (intOf i).toNat)
          case atStart => exact ⟨0, Nat.zero_le _, rfl, S4.out, N4.out⟩
          case round =>
            obtain ⟨k, hk, rfl, hst, hrow⟩ := hrel
            have HS := hide hst
            have HW := hide hrow
            clear S4 N4 hst
            by_cases hlt : k < n
            · have hx : wr.cell? ⟨G3, k, none⟩ = some (.int .u8 (f k)) := by rw [irow_cell hrow k (by omega)]; simp [nbF, hlt]
              have hfz := frozen_of_row wr G3 k _ _ hrow
              have hbd := HF.out k
              have XE := hide (not_u8 (f k) hbd)
              clear hrow
              go_wp2
              go_roundw
              case rel =>
                obtain ⟨l1, l2, l3⟩ := HL.out
                refine ⟨k + 1, by omega, by go_num, HS.out.later l1 l2 l3 ((Below.refl _ _).setCell (by exact Nat.le_refl _) _), irow_store HW.out k _ (fun i _ => ?_)⟩
                rw [XE.out]
                exact nbF_next f n k i
              case measure => simp [intOf]; omega
            · obtain rfl : n = k := by omega
              obtain ⟨i0, hi0, hz0, hz1, hz2⟩ := info_parts info5
              have HO := hide (own_of_row (base := w.heap.size) hrow (by have := HL.out; omega) hn (by unfold maxLen; omega))
              have HN := hide (news_at HS.out hn HCE.out)
              have s3 : G3 < wr.heap.size := (Array.getElem?_eq_some_iff.1 hrow).1
              have hbs : w.heap.size ≤ wr.heap.size := HS.out.bel.size
              clear hrow hlt hk HW HCE
              go_wp2_with (at_builtin; refine wpList_append_own _ rfl (.tmp 108) (.tmp 109) 22 rfl w.heap.size 5 i0 (.int .u8 0) 1 1 Trym.underlying22 hi0 hz0 hz1 hz2 rfl (by decide) (.slice (some ⟨G3, 0, none⟩) n s) n (lst n fun j => 255 - f j) rfl HO.out E m m (lst m g) rfl (by rw [lst_len, Nat.mul_one]) HN.out (lst_one _ _) (by unfold maxLen; omega) (by omega) hbs ?_)
              intro v' w5 hown' hgrow hiff
              obtain ⟨H, cap', hv', hH, hcells⟩ := own_shape hown' hiff
              rw [hv']
              have b5 : Below G3 wr w5 := (Below.refl _ _).grown hgrow (by omega) (fun k hk => by simp [Value.ownBlock] at hk; omega)
              have S5 : Hid (St w w5 G1 G2 n s m f g) := HS.out.later HL.out.1 HL.out.2.1 HL.out.2.2 b5
              have C5 := hide hcells
              have H5 := hide hH
              have L5 : Hid (w.heap.size < w5.heap.size ∧ G1 < w5.heap.size ∧ G2 < w5.heap.size) := by
                have := HL.out; have := b5.size; exact ⟨by omega, by omega, by omega⟩
              clear hown' hgrow hiff hv' hcells hH b5 HO HN HS HL hi0 hz0 hz1 hz2 s3 hbs
              go_wp2
              go_loopw [18] (fun i wr => ∃ k q : Nat, k ≤ n ∧ i = .int .i64 k ∧ wr = w5.drewN q) (fun i _ => n - (intOf i).toNat)
              case atStart => exact ⟨0, 0, Nat.zero_le _, rfl, rfl⟩
              case round =>
                obtain ⟨k, q, hk, rfl, rfl⟩ := hrel
                by_cases hlt : k < n
                · have c1 : w5.cell? ⟨w.heap.size, k, none⟩ = some (.int .u8 (f k)) := by rw [irow_cell S5.out.arr k (by omega)]; simp [arrF, hlt]
                  have c2 : w5.cell? ⟨G1, k, none⟩ = some (.int .u8 (f k)) := irow_cell S5.out.want k hlt
                  go_wp2
                  go_quiet (fail)
                  go_wp2
                  go_roundw
                  case rel => exact ⟨k + 1, _, by omega, by go_num, rfl⟩
                  case measure => simp [intOf]; omega
                · obtain rfl : n = k := by omega
                  clear hk hlt
                  go_wp2
                  go_loop [19] (fun i => ∃ k : Nat, n ≤ k ∧ k ≤ s ∧ i = .int .i64 k) (fun i => s - (intOf i).toNat)
                  case atStart => exact ⟨n, Nat.le_refl _, hn, rfl⟩
                  case round =>
                    obtain ⟨k, hk1, hk2, rfl⟩ := hrel
                    by_cases hlt : k < s
                    · have c1 : w5.cell? ⟨w.heap.size, k, none⟩ = some (.int .u8 0) := by
                        rw [irow_cell S5.out.arr k (by omega)]
                        unfold arrF
                        rw [if_neg (by omega), if_neg (by omega)]
                      go_wp2
                      go_round
                      case rel => exact ⟨k + 1, by omega, by omega, by go_num⟩
                      case measure => simp [intOf]; omega
                    · obtain rfl : s = k := by omega
                      clear hk1 hk2 hlt
                      go_wp2
                      go_loopw [20] (fun i wr => ∃ k q : Nat, k ≤ m ∧ i = .int .i64 k ∧ wr = w5.drewN q) (fun i _ => m - (intOf i).toNat)
                      case atStart => exact ⟨0, q, Nat.zero_le _, rfl, rfl⟩
                      case round =>
                        obtain ⟨k, q, hk, rfl, rfl⟩ := hrel
                        by_cases hlt : k < m
                        · have c1 : w5.cell? ⟨w.heap.size, s + k, none⟩ = some (.int .u8 (g k)) := by
                            rw [irow_cell S5.out.arr (s + k) (by omega)]
                            unfold arrF
                            rw [if_neg (by omega), if_pos (by omega), show s + k - s = k by omega]
                          have c2 : w5.cell? ⟨G2, k, none⟩ = some (.int .u8 (g k)) := irow_cell S5.out.ext k hlt
                          go_wp2
                          go_quiet (fail)
                          go_wp2
                          go_roundw
                          case rel => exact ⟨k + 1, _, by omega, by go_num, rfl⟩
                          case measure => simp [intOf]; omega
                        · obtain rfl : m = k := by omega
                          have c6 := zzresize_any (some ⟨w.heap.size, 0, none⟩) n s s f (w5.drewN q) hn hs (Src.own S5.out.arr (by omega) (fun i hi => by simp [arrF, hi]))
                          simp only [World.heap_drewN] at c6
                          have C6 := hide c6
                          clear hk hlt c6
                          go_wp2_with fail
                          refine C6.out.mono ?_
                          rintro e w6 ⟨rfl, hb6, hr6⟩
                          have hb6' : Below w5.heap.size w5 w6 := (below_drewN (Below.refl _ _) q).trans hb6
                          have S6 : Hid (St w w6 G1 G2 n s m f g) := S5.out.later L5.out.1 L5.out.2.1 L5.out.2.2 hb6'
                          have D6 : Hid (∀ j, j < n + m → w6.cell? ⟨H, j, none⟩ = some (.int .u8 (nbAll f g n j))) := fun j hj => (hb6'.cell (by exact H5.out)).trans (C5.out j hj)
                          have C7 := hide (same_any (some ⟨w5.heap.size, 0, none⟩) (some ⟨G1, 0, none⟩) n s n f w6 (by omega) (Src.own hr6 hn (fun i hi => by simp [hi])) (Src.own S6.out.want (Nat.le_refl _) (fun _ _ => rfl)))
                          clear hb6 hr6 hb6' C6 C5 H5 L5 S5
                          go_wp2_with fail
                          refine C7.out.mono ?_
                          rintro e w7 ⟨rfl, q', hw⟩
                          rw [hw]
                          clear hw C7
                          go_wp2
                          go_loopw [22] (fun i wr => ∃ k q : Nat, k ≤ n ∧ i = .int .i64 k ∧ wr = w6.drewN q) (fun i _ => n - (intOf i).toNat)
                          case atStart => exact ⟨0, q', Nat.zero_le _, rfl, rfl⟩
                          case round =>
                            obtain ⟨k, q, hk, rfl, rfl⟩ := hrel
                            by_cases hlt : k < n
                            · have c1 : w6.cell? ⟨H, k, none⟩ = some (.int .u8 (255 - f k)) := by
                                rw [D6.out k (by omega)]; simp [nbAll, hlt]
                              have c2 : w6.cell? ⟨G1, k, none⟩ = some (.int .u8 (f k)) := irow_cell S6.out.want k hlt
                              have xe := not_u8 (f k) (HF.out k)
                              go_wp2
                              go_quiet (fail)
                              go_wp2
                              go_roundw
                              case rel => exact ⟨k + 1, _, by omega, by go_num, rfl⟩
                              case measure => simp [intOf]; omega
                            · obtain rfl : n = k := by omega
                              clear hk hlt
                              go_wp2
                              go_loopw [23] (fun i wr => ∃ k q : Nat, k ≤ m ∧ i = .int .i64 k ∧ wr = w6.drewN q) (fun i _ => m - (intOf i).toNat)
                              case atStart => exact ⟨0, q, Nat.zero_le _, rfl, rfl⟩
                              case round =>
                                obtain ⟨k, q, hk, rfl, rfl⟩ := hrel
                                by_cases hlt : k < m
                                · have c1 : w6.cell? ⟨H, n + k, none⟩ = some (.int .u8 (g k)) := by
                                    rw [D6.out (n + k) (by omega)]
                                    unfold nbAll
                                    rw [if_neg (by omega), show n + k - n = k by omega]
                                  have c2 : w6.cell? ⟨G2, k, none⟩ = some (.int .u8 (g k)) := irow_cell S6.out.ext k hlt
                                  go_wp2
                                  go_quiet (fail)
                                  go_wp2
                                  go_roundw
                                  case rel => exact ⟨k + 1, _, by omega, by go_num, rfl⟩
                                  case measure => simp [intOf]; omega
                                · clear hk
                                  go_wp2
                                  go_ret
                                  exact ⟨rfl, below_drewN S6.out.bel q⟩

theorem fresh_any (a b : Option Addr) (la ca lb cb : Nat) (za zb : List Int) (v : Int) (w : World) (hra : IsRow .u8 w a la ca za) (hrb : IsRow .u8 w b lb cb zb) :
    Calls Trym.prog 4 #[.slice a la ca, .int .i64 v, .slice b lb cb] w fun e w' => e = .returned (.bool true) ∧ Below w.heap.size w w' := by
  by_cases hl : la + lb ≤ 1048576
  · by_cases hv : v < la ∨ 65536 < v
    · exact fresh_out a b la ca lb cb v w hl hv
    · obtain ⟨s, rfl⟩ : ∃ s : Nat, v = s := ⟨v.toNat, by omega⟩
      exact fresh_in a b la ca lb cb s _ _ w hl (by omega) (by omega) hra.src hrb.src hra.bd
  · exact fresh_long a b la ca lb cb v w hra.len_le hrb.len_le hl

end Go.Proofs.Qxb6600746aMods
