import Derived.Test.Qxb6600881aModsRows
import Derived.Test.Qxb6600881aModsPlain
import Derived.WalkKit
import Derived.WalkSpells
import Derived.WalkLawsBesides
import Derived.Laws.RangeAny
import Derived.Lib.Strings
namespace Go.Proofs.Qxb6600881aMods
open Go.RowKit

theorem hide {p : Prop} (h : p) : Hid p := h

theorem frozen?_iter (w : World) (s : ByteArray) (p : Nat) (a : Addr) : (w.iter s p).frozen? a = w.frozen? a := by
  by_cases h : a.block = w.heap.size
  · have e1 : (w.iter s p).heap[a.block]? = some (.stringIter s p) := by rw [h]; exact World.iter_heap w s p
    have e2 : w.heap[a.block]? = none := by rw [h]; simp
    simp [World.frozen?, e1, e2]
  · exact World.frozen?_alloc_old _ _ _ h

/-- 'Grown', one arm more: an iterator over a string. -/
theorem grown_iter {W w' : World} (h : Grown W w') (s : ByteArray) (p : Nat) : Grown W (w'.iter s p) :=
  ⟨World.keptBut_trans h.1 (World.keptBut_alloc _ _ _), fun a => (frozen?_iter _ _ _ a).trans (h.2.1 a), Nat.le_trans h.2.2 (by show w'.heap.size ≤ (w'.heap.push _).size; simp)⟩

theorem extract_all (s : ByteArray) : s.extract 0 s.size = s := by
  apply ByteArray.ext
  apply Array.ext'
  rw [Lib.extract_data, List.drop_zero, List.take_of_length_le (by rw [← Lib.size_eq]; omega)]

theorem extract_cut (s : ByteArray) (K q : Nat) (h : q ≤ K) : (s.extract 0 K).extract 0 q = s.extract 0 q := by
  apply ByteArray.ext
  apply Array.ext'
  rw [Lib.extract_data, Lib.extract_data, Lib.extract_data, List.drop_zero, List.drop_zero, Nat.sub_zero, Nat.sub_zero, List.take_take, Nat.min_eq_left h]

theorem pp_end (s : ByteArray) (j : Nat) (h : ¬ Plain.pp s j < s.size) (i : Nat) (hi : j ≤ i) : Plain.pp s i = s.size := by
  have l := Plain.pp_le s j
  induction i with
  | zero => obtain rfl : j = 0 := by omega
            omega
  | succ i ih =>
    by_cases e : j = i + 1
    · subst e; omega
    · rw [Plain.pp, ih (by omega), if_neg (by omega)]

set_option maxHeartbeats 400000 in
theorem prefix_any (s : ByteArray) (w : World) (hs : s.size ≤ 1048576) :
    Calls Trym.prog 6 #[.string s] w fun e w' => e = .returned (.string (s.extract 0 (Plain.pp s 10))) ∧ Grown w w' := by
  go_enter Trym.func6, Trym.ntmps6
  go_wp2
  go_loopw [3] (fun n wr => ∃ j : Nat, j ≤ 10 ∧ n = .int .i64 j ∧ wr = w.iter s (Plain.pp s j)) (fun n _ => 10 - (intOf n).toNat)
  case atStart => exact ⟨0, by omega, rfl, rfl⟩
  case round =>
    obtain ⟨j, hj, rfl, rfl⟩ := hrel
    by_cases hlt : Plain.pp s j < s.size
    · have hnx := fun ty => run_next_any (P := Trym.prog) w s (Plain.pp s j) ty hlt
      have hz : Plain.pp s j ≤ 1048576 := by omega
      by_cases h10 : j = 10
      · subst h10
        go_wp2
        go_ret
        exact ⟨rfl, grown_iter (Grown.refl _) _ _⟩
      · have hj9 : j < 10 := by omega
        go_wp2
        go_roundw
        case rel => exact ⟨j + 1, by omega, by go_num, by rw [Plain.pp, if_pos hlt]; rfl⟩
        case measure => simp [intOf]; omega
    · have hnx := fun ty => run_next_end (P := Trym.prog) w s (Plain.pp s j) ty hlt
      have HE := hide (pp_end s j hlt 10 hj)
      go_wp2
      go_ret
      exact ⟨by rw [HE.out, extract_all]; rfl, grown_iter (Grown.refl _) _ _⟩

set_option maxHeartbeats 400000 in
theorem bytes_any (s : ByteArray) (w : World) (hm : s.size ≤ maxLen) :
    Calls Trym.prog 7 #[.string s] w fun e w' => e = .returned (.bool (decide (s.size ≤ 1048576))) ∧ w' = w := by
  unfold maxLen at hm
  by_cases h : s.size ≤ 1048576
  · rw [decide_eq_true h]
    go_enter Trym.func7, Trym.ntmps7
    go_wp2
    go_ret
    exact ⟨rfl, rfl⟩
  · rw [decide_eq_false h]
    go_enter Trym.func7, Trym.ntmps7
    go_wp2
    go_ret
    exact ⟨rfl, rfl⟩

set_option maxHeartbeats 400000 in
theorem law_long (s : ByteArray) (w : World) (hm : s.size ≤ maxLen) (hl : ¬ s.size ≤ 1048576) :
    Calls Trym.prog 4 #[.string s] w fun e w' => e = .returned (.bool true) ∧ Grown w w' := by
  have hc := bytes_any s w hm
  rw [decide_eq_false hl] at hc
  have HC := hide hc
  clear hc hl
  go_enter Trym.func4, Trym.ntmps4
  go_wp2_with (go_at_call 7; refine HC.out.mono ?_; rintro e w' ⟨rfl, hw⟩; rw [hw]; clear hw)
  go_ret
  exact ⟨rfl, Grown.refl _⟩

theorem grown_trans {a b c : World} (h : Grown a b) (k : Grown b c) : Grown a c :=
  ⟨World.keptBut_trans h.1 k.1, fun x => (k.2.1 x).trans (h.2.1 x), Nat.le_trans h.2.2 k.2.2⟩

set_option maxHeartbeats 400000 in
/-- All runes are in: the answer is the string itself. -/
theorem law_whole (s : ByteArray) (w : World) (hl : s.size ≤ 1048576) (hq : Plain.pp s 10 = s.size) :
    Calls Trym.prog 4 #[.string s] w fun e w' => e = .returned (.bool true) ∧ Grown w w' := by
  have hc := bytes_any s w (by unfold maxLen; omega)
  rw [decide_eq_true hl] at hc
  have HC := hide hc
  have h40 : s.size ≤ 40 := by have := (Plain.ten s).2.1; omega
  have hp : ∀ w, Calls Trym.prog 6 #[.string s] w fun e w' => e = .returned (.string s) ∧ Grown w w' := fun w => by
    have h := prefix_any s w hl
    rwa [hq, extract_all] at h
  have HP := hide hp
  have hx := extract_all s
  clear hc hp hq
  go_enter Trym.func4, Trym.ntmps4
  go_wp2_with (go_at_call 7; refine HC.out.mono ?_; rintro e w' ⟨rfl, hw⟩; rw [hw]; clear hw)
  refine (HP.out _).mono ?_
  rintro e w1 ⟨rfl, hg1⟩
  have G1 := hide hg1
  clear hg1 HC
  by_cases h10 : s.size ≤ 10
  all_goals
    go_wp2_with fail
    refine (HP.out _).mono ?_
    rintro e w2 ⟨rfl, hg2⟩
    have G2 := hide (grown_trans G1.out hg2)
    clear hg2
    go_wp2
    go_ret
    exact ⟨rfl, G2.out⟩

set_option maxHeartbeats 400000 in
/-- The answer is cut short. -/
theorem law_cut (s : ByteArray) (w : World) (hl : s.size ≤ 1048576) (hq : Plain.pp s 10 ≠ s.size) :
    Calls Trym.prog 4 #[.string s] w fun e w' => e = .returned (.bool true) ∧ Grown w w' := by
  have hc := bytes_any s w (by unfold maxLen; omega)
  rw [decide_eq_true hl] at hc
  have HC := hide hc
  obtain ⟨t1, t2, t3, t4⟩ := Plain.ten s
  have t5 := t4 hq
  have t6 : Plain.pp s 10 < s.size := by omega
  obtain ⟨p, hp⟩ : ∃ p, p = s.extract 0 (Plain.pp s 10) := ⟨_, rfl⟩
  have hsz : p.size = Plain.pp s 10 := by rw [hp, ByteArray.size_extract]; omega
  have hp1 : 10 ≤ p.size := by omega
  have hp2 : p.size ≤ 40 := by omega
  have hp3 : p.size < s.size := by omega
  have hx : s.extract 0 p.size = p := by rw [hsz]; exact hp.symm
  have HP := hide (fun w => prefix_any s w hl)
  rw [← hp] at HP
  have HP2 : Hid (40 < s.size → ∀ w, Calls Trym.prog 6 #[.string (s.extract 0 40)] w fun e w' => e = .returned (.string p) ∧ Grown w w') := fun h40 w => by
    have h := prefix_any (s.extract 0 40) w (by rw [ByteArray.size_extract]; omega)
    rwa [Plain.pp_cut s h40 10 (by omega), extract_cut s 40 _ t2, ← hp] at h
  have hne : (p.toList == s.toList) = false := by
    rw [beq_eq_false_iff_ne]
    intro e
    have h := congrArg List.length e
    rw [Lib.toList_data, Lib.toList_data, ← Lib.size_eq, ← Lib.size_eq] at h
    omega
  clear hc hq t1 t2 t3 t4 t5 t6 hp hsz
  by_cases h40 : 40 < s.size
  · go_enter Trym.func4, Trym.ntmps4
    go_wp2_with (go_at_call 7; refine HC.out.mono ?_; rintro e w' ⟨rfl, hw⟩; rw [hw]; clear hw)
    refine (HP.out _).mono ?_
    rintro e w1 ⟨rfl, hg1⟩
    have G1 := hide hg1
    clear hg1 HC HP
    go_wp2_with fail
    refine (HP2.out h40 _).mono ?_
    rintro e w2 ⟨rfl, hg2⟩
    have G2 := hide (grown_trans G1.out hg2)
    clear hg2 HP2
    go_wp2
    go_ret
    exact ⟨rfl, G2.out⟩
  · clear HP2
    go_enter Trym.func4, Trym.ntmps4
    go_wp2_with (go_at_call 7; refine HC.out.mono ?_; rintro e w' ⟨rfl, hw⟩; rw [hw]; clear hw)
    refine (HP.out _).mono ?_
    rintro e w1 ⟨rfl, hg1⟩
    have G1 := hide hg1
    clear hg1 HC
    go_wp2_with fail
    refine (HP.out _).mono ?_
    rintro e w2 ⟨rfl, hg2⟩
    have G2 := hide (grown_trans G1.out hg2)
    clear hg2 HP
    go_wp2
    go_ret
    exact ⟨rfl, G2.out⟩

theorem law_any (s : ByteArray) (w : World) (hm : s.size ≤ maxLen) : Calls Trym.prog 4 #[.string s] w fun e w' => e = .returned (.bool true) ∧ Grown w w' := by
  by_cases hl : s.size ≤ 1048576
  · by_cases hq : Plain.pp s 10 = s.size
    · exact law_whole s w hl hq
    · exact law_cut s w hl hq
  · exact law_long s w hm hl

end Go.Proofs.Qxb6600881aMods
