import Derived.Test.Qxb6600642aModsWords
namespace Go.Proofs.Qxb6600642aMods
open Go.RowKit

set_option maxHeartbeats 400000 in
theorem law_long (a b : Option Addr) (la ca lb cb : Nat) (w : World) (ha : la ≤ maxLen) (hb : lb ≤ maxLen) (hl : ¬ la + lb ≤ 1048576) :
    Calls Trym.prog 5 #[.slice a la ca, .slice b lb cb] w fun e w' => e = .returned (.bool true) ∧ Below w.heap.size w w' := by
  have hc := bytes_any a b la ca lb cb w ha hb
  rw [decide_eq_false hl] at hc
  have HC := hide hc
  clear hc hl
  go_enter Trym.func5, Trym.ntmps5
  go_wp2_with (go_at_call 11; refine HC.out.mono ?_; rintro e w' ⟨rfl, hw⟩; rw [hw]; clear hw)
  go_ret
  exact ⟨rfl, Below.refl _ _⟩

set_option maxHeartbeats 400000 in
theorem law_empty (a b : Option Addr) (la ca lb cb : Nat) (w : World) (hl : la + lb ≤ 1048576) (h0 : la = 0 ∨ lb = 0) :
    Calls Trym.prog 5 #[.slice a la ca, .slice b lb cb] w fun e w' => e = .returned (.bool true) ∧ Below w.heap.size w w' := by
  have hc := bytes_any a b la ca lb cb w (by unfold maxLen; omega) (by unfold maxLen; omega)
  rw [decide_eq_true hl] at hc
  have HC := hide hc
  clear hc
  rcases Nat.eq_zero_or_pos la with h | h
  · subst h
    go_enter Trym.func5, Trym.ntmps5
    go_wp2_with (go_at_call 11; refine HC.out.mono ?_; rintro e w' ⟨rfl, hw⟩; rw [hw]; clear hw)
    go_ret
    exact ⟨rfl, Below.refl _ _⟩
  · obtain rfl : lb = 0 := by omega
    have hne : ((la : Int) == 0) = false := by simp; omega
    clear h0
    go_enter Trym.func5, Trym.ntmps5
    go_wp2_with (go_at_call 11; refine HC.out.mono ?_; rintro e w' ⟨rfl, hw⟩; rw [hw]; clear hw)
    go_ret
    exact ⟨rfl, Below.refl _ _⟩

set_option maxHeartbeats 1000000 in
theorem law_full (a b : Option Addr) (la ca lb cb : Nat) (za zb : List Int) (w : World) (hra : IsRow .u8 w a la ca za) (hrb : IsRow .u8 w b lb cb zb) (hl : la + lb ≤ 1048576) (h1 : 0 < la) (h2 : 0 < lb) :
    Calls Trym.prog 5 #[.slice a la ca, .slice b lb cb] w fun e w' => e = .returned (.bool true) ∧ Below w.heap.size w w' := by
  have hc := bytes_any a b la ca lb cb w hra.len_le hrb.len_le
  rw [decide_eq_true hl] at hc
  have HC := hide hc
  have HA := hide (copy_any a la ca za w hra (by omega))
  have HRB := hide hrb
  have hna : ((la : Int) == 0) = false := by simp; omega
  have hnb : ((lb : Int) == 0) = false := by simp; omega
  clear hc hra hrb
  go_enter Trym.func5, Trym.ntmps5
  go_wp2_with (go_at_call 11; refine HC.out.mono ?_; rintro e w' ⟨rfl, hw⟩; rw [hw]; clear hw)
  refine HA.out.mono ?_
  rintro e w1 ⟨a', rfl, hb1, hrd⟩
  have HB := hide (copy_any b lb cb zb w1 (HRB.out.later hb1) (by omega))
  have RA := hide hrd
  have B1 := hide hb1
  clear HC HA HRB hb1 hrd
  go_wp2_with fail
  refine HB.out.mono ?_
  rintro e w2 ⟨b', rfl, hb2, hrd⟩
  have KA := hide (zzkind_any a' la la _ w2 h1 (RA.out.later hb2))
  have KB := hide (zzkind_any b' lb lb _ w2 h2 hrd)
  have B2 : Hid (Below w.heap.size w w2) := B1.out.trans (hb2.mono B1.out.size)
  clear HB RA B1 hb2 hrd
  go_wp2_with fail
  refine KA.out.mono ?_
  rintro e w' ⟨i, hi, rfl, hw⟩
  rw [hw]
  clear hw KA
  go_wp2_with fail
  refine KB.out.mono ?_
  rintro e w' ⟨j, hj, rfl, hw⟩
  rw [hw]
  clear hw KB
  go_wp2_with fail
  refine (zzwords_any i hi _).mono ?_
  rintro e w' ⟨rfl, hw⟩
  rw [hw]
  clear hw
  go_wp2_with fail
  refine (zzwords_any j hj _).mono ?_
  rintro e w' ⟨rfl, hw⟩
  rw [hw]
  clear hw
  have hap := apart i hi j hj
  obtain ⟨b1, hk⟩ : ∃ b1, ((kS i).toList == (kS j).toList) = b1 := ⟨_, rfl⟩
  rw [hk] at hap
  have hap' : ((wS i).toList == (wS j).toList) = b1 := hap.symm
  clear hap
  go_wp2
  go_ret
  exact ⟨by simp, B2.out⟩

theorem law_any (a b : Option Addr) (la ca lb cb : Nat) (za zb : List Int) (w : World) (hra : IsRow .u8 w a la ca za) (hrb : IsRow .u8 w b lb cb zb) :
    Calls Trym.prog 5 #[.slice a la ca, .slice b lb cb] w fun e w' => e = .returned (.bool true) ∧ Below w.heap.size w w' := by
  by_cases hl : la + lb ≤ 1048576
  · by_cases h0 : la = 0 ∨ lb = 0
    · exact law_empty a b la ca lb cb w hl h0
    · exact law_full a b la ca lb cb za zb w hra hrb hl (by omega) (by omega)
  · exact law_long a b la ca lb cb w hra.len_le hrb.len_le hl

end Go.Proofs.Qxb6600642aMods
