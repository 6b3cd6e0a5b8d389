import Derived.Test.Qxb6600746aModsSmall
namespace Go.Proofs.Qxb6600746aMods
open Go.RowKit

set_option maxHeartbeats 400000 in
theorem keeps_long (a : Option Addr) (len cap : Nat) (v : Int) (w : World) (hm : len ≤ maxLen) (hl : ¬ len ≤ 1048576) :
    Calls Trym.prog 3 #[.slice a len cap, .int .i64 v] w fun e w' => e = .returned (.bool true) ∧ Below w.heap.size w w' := by
  have hc := bytesK_any a len cap v w hm
  rw [decide_eq_false hl] at hc
  have HC := hide hc
  clear hc hl
  go_enter Trym.func3, Trym.ntmps3
  go_wp2_with (go_at_call 5; refine HC.out.mono ?_; rintro e w' ⟨rfl, hw⟩; rw [hw]; clear hw)
  go_ret
  exact ⟨rfl, Below.refl _ _⟩

set_option maxHeartbeats 400000 in
theorem keeps_out (a : Option Addr) (len cap : Nat) (v : Int) (w : World) (hl : len ≤ 1048576) (hv : v < len ∨ 65536 < v) :
    Calls Trym.prog 3 #[.slice a len cap, .int .i64 v] w fun e w' => e = .returned (.bool true) ∧ Below w.heap.size w w' := by
  have hc := bytesK_any a len cap v w (by unfold maxLen; omega)
  rw [decide_eq_true hl] at hc
  have HC := hide hc
  clear hc
  by_cases h : v < (len : Int)
  · clear hv
    go_enter Trym.func3, Trym.ntmps3
    go_wp2_with (go_at_call 5; refine HC.out.mono ?_; rintro e w' ⟨rfl, hw⟩; rw [hw]; clear hw)
    go_ret
    exact ⟨rfl, Below.refl _ _⟩
  · have h2 : 65536 < v := by omega
    clear hv
    go_enter Trym.func3, Trym.ntmps3
    go_wp2_with (go_at_call 5; refine HC.out.mono ?_; rintro e w' ⟨rfl, hw⟩; rw [hw]; clear hw)
    go_ret
    exact ⟨rfl, Below.refl _ _⟩

set_option maxHeartbeats 1000000 in
theorem keeps_nil (s : Nat) (w : World) (hs : s ≤ 65536) :
    Calls Trym.prog 3 #[.slice none 0 0, .int .i64 (s : Int)] w fun e w' => e = .returned (.bool true) ∧ Below w.heap.size w w' := by
  have hc := bytesK_any none 0 0 (s : Int) w (by unfold maxLen; omega)
  have HC := hide hc
  have s0 : ∀ w f, Src w none 0 f := fun w f h => absurd h (by omega)
  have HZ := hide (zzresize_any none 0 0 s (fun _ => 0) w (by omega) hs (s0 _ _))
  have S0 := hide s0
  have hnil := fun (w : World) (a : Option Addr) (n c : Nat) => run_neq_slice_nil_any (P := Trym.prog) w 22 5 a n c 0 0 Trym.underlying22
  clear hc s0
  go_enter Trym.func3, Trym.ntmps3
  go_wp2_with (go_at_call 5; refine HC.out.mono ?_; rintro e w' ⟨rfl, hw⟩; rw [hw]; clear hw)
  refine HZ.out.mono ?_
  rintro e w1 ⟨rfl, hb, hg⟩
  have HS := hide (same_any (some ⟨w.heap.size, 0, none⟩) none 0 s 0 (fun _ => 0) w1 (by omega) (fun h => absurd h (by omega)) (S0.out _ _))
  have HB := hide hb
  clear HZ HC S0 hb hg
  go_wp2_with fail
  refine HS.out.mono ?_
  rintro e w2 ⟨rfl, n, hw⟩
  rw [hw]
  clear hw HS
  go_wp2
  go_ret
  exact ⟨rfl, below_drewN HB.out n⟩

set_option maxHeartbeats 1000000 in
theorem keeps_some (x : Addr) (len cap s : Nat) (f : Nat → Int) (w : World) (hl : len ≤ s) (hs : s ≤ 65536) (hr : Src w (some x) len f) :
    Calls Trym.prog 3 #[.slice (some x) len cap, .int .i64 (s : Int)] w fun e w' => e = .returned (.bool true) ∧ Below w.heap.size w w' := by
  have hc := bytesK_any (some x) len cap (s : Int) w (by unfold maxLen; omega)
  rw [decide_eq_true (by omega)] at hc
  have HC := hide hc
  have HR := hide hr
  have hnil := fun (w : World) (a : Option Addr) (n c : Nat) => run_neq_slice_nil_any (P := Trym.prog) w 22 5 a n c 0 0 Trym.underlying22
  have hmk := fun w => mk_bytes len len (Nat.le_refl _) (by omega) w
  clear hc hr
  go_enter Trym.func3, Trym.ntmps3
  go_wp2_with (first
    | (go_at_call 5; refine HC.out.mono ?_; rintro e w' ⟨rfl, hw⟩; rw [hw]; clear hw)
    | (refine wpList_copy_splice rfl (.tmp 27) (.tmp 28) 22 22 rfl 5 Trym.underlying22 size5 (some ⟨w.heap.size, 0, none⟩) (some x) len len len cap rfl rfl w.heap.size 0 (irow .u8 len fun _ => 0).toList 5 (by rw [irow_list]; exact heap_alloc_new _ _) ((List.range len).map fun i => Value.int .u8 (f i)) (by simp) (copy_src HR.out ((Below.refl _ _).alloc (Nat.le_refl _) _)) (by simp [irow_size]) (by intro v hv; obtain ⟨_, _, rfl⟩ := List.mem_map.1 hv; rfl) w.heap.size w ((Below.refl _ _).alloc (Nat.le_refl _) _) (Nat.le_refl _) ?_; intro w1 hg1 hb1))
  have hrow : w1.heap[w.heap.size]? = some (.cells (irow .u8 len f) 5 (0, 0)) := by
    rw [hg1.out, splice_irow len len f _ (Nat.le_refl _)]
    congr 2
    exact irow_congr fun i hi => by simp [hi]
  have S1 := hide (Src.own (f' := f) hrow (Nat.le_refl _) (fun _ _ => rfl))
  have HZ := hide (zzresize_any (some ⟨w.heap.size, 0, none⟩) len len s f w1 hl hs S1.out)
  have B1 := hide hb1
  clear hrow hg1 hb1 HC HR
  refine HZ.out.mono ?_
  rintro e w2 ⟨rfl, hb2, hg2⟩
  have HS := hide (same_any (some ⟨w1.heap.size, 0, none⟩) (some ⟨w.heap.size, 0, none⟩) len s len f w2 (by omega) (Src.own hg2 hl (fun i hi => by simp [hi])) (S1.out.later hb2))
  have B2 : Hid (Below w.heap.size w w2) := B1.out.trans (hb2.mono B1.out.size)
  clear HZ S1 B1 hb2 hg2
  go_wp2_with fail
  refine HS.out.mono ?_
  rintro e w3 ⟨rfl, n, hw⟩
  rw [hw]
  clear hw HS
  go_wp2
  go_ret
  exact ⟨rfl, below_drewN B2.out n⟩

theorem keeps_any (a : Option Addr) (len cap : Nat) (z : List Int) (v : Int) (w : World) (hr : IsRow .u8 w a len cap z) :
    Calls Trym.prog 3 #[.slice a len cap, .int .i64 v] w fun e w' => e = .returned (.bool true) ∧ Below w.heap.size w w' := by
  by_cases hl : len ≤ 1048576
  · by_cases hv : v < len ∨ 65536 < v
    · exact keeps_out a len cap v w hl hv
    · obtain ⟨s, rfl⟩ : ∃ s : Nat, v = s := ⟨v.toNat, by omega⟩
      have hs := hr.src
      cases a with
      | none =>
        obtain ⟨rfl, rfl⟩ := hr.nil rfl
        exact keeps_nil s w (by omega)
      | some x => exact keeps_some x len cap s _ w (by omega) (by omega) hs
  · exact keeps_long a len cap v w hr.len_le hl

end Go.Proofs.Qxb6600746aMods
