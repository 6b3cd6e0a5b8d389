import Derived.Test.Qxb6600746aModsSmall
namespace Go.Proofs.Qxb6600746aMods
open Go.RowKit

set_option maxHeartbeats 400000 in
/-- 'zzCopyBytesB1': a row of the call's own. -/
theorem copy_any (a : Option Addr) (len cap : Nat) (f : Nat → Int) (w : World) (hl : len ≤ 1048576) (hr : Src w a len f) :
    Calls Trym.prog 9 #[.slice a len cap] w fun e w' => e = .returned (.slice (some ⟨w.heap.size, 0, none⟩) len len) ∧ Below w.heap.size w w' ∧
      w'.heap[w.heap.size]? = some (.cells (irow .u8 len f) 5 (0, 0)) := by
  have hmk := fun w => mk_bytes len len (Nat.le_refl _) (by omega) w
  have HR := hide hr
  clear hr
  go_enter Trym.func9, Trym.ntmps9
  go_wp2
  go_loopw [4] (fun i wr => ∃ k : Nat, k ≤ len ∧ i = .int .i64 k ∧ Below w.heap.size w wr ∧ wr.heap[w.heap.size]? = some (.cells (irow .u8 len fun j => if j < k then f j else 0) 5 (0, 0))) (fun i _ => len - (intOf i).toNat)
  case atStart => exact ⟨0, Nat.zero_le _, rfl, (Below.refl _ _).alloc (Nat.le_refl _) _, heap_alloc_new _ _⟩
  case round =>
    obtain ⟨k, hk, rfl, hbel, hrow⟩ := hrel
    have HB := hide hbel
    have HW := hide hrow
    by_cases hlt : k < len
    · obtain ⟨b, off, rfl, hb, hc⟩ := HR.out (by omega)
      have hx : wr.cell? ⟨b, off + k, none⟩ = some (.int .u8 (f k)) := (hbel.cell (by exact hb)).trans (hc k hlt)
      obtain ⟨v0, hown⟩ : ∃ v, wr.cell? ⟨w.heap.size, k, none⟩ = some (.int .u8 v) := ⟨_, irow_cell hrow k hlt⟩
      have hfz := frozen_of_row wr w.heap.size k _ _ hrow
      clear hrow hbel hc hmk HR
      go_wp2
      go_roundw
      case rel => exact ⟨k + 1, by omega, by go_num, HB.out.setCell (by exact Nat.le_refl _) _, irow_store HW.out k _ (fun i _ => by
        by_cases e : i = k
        · subst e; simp
        · by_cases e2 : i < k
          · simp [e, e2, show i < k + 1 by omega]
          · simp [e, e2, show ¬ i < k + 1 by omega])⟩
      case measure => simp [intOf]; omega
    · obtain rfl : k = len := by omega
      clear hrow hbel hmk HR
      go_wp2
      go_ret
      exact ⟨rfl, HB.out, by rw [HW.out]; congr 2; exact irow_congr fun i hi => by simp [hi]⟩

set_option maxHeartbeats 400000 in
theorem bytesF_any (a b : Option Addr) (la ca lb cb : Nat) (v : Int) (w : World) (ha : la ≤ maxLen) (hb : lb ≤ maxLen) :
    Calls Trym.prog 8 #[.slice a la ca, .int .i64 v, .slice b lb cb] w fun e w' => e = .returned (.bool (decide (la + lb ≤ 1048576))) ∧ w' = w := by
  unfold maxLen at ha hb
  by_cases h : la + lb ≤ 1048576
  · rw [decide_eq_true h]
    go_enter Trym.func8, Trym.ntmps8
    go_wp2
    go_ret
    exact ⟨rfl, rfl⟩
  · rw [decide_eq_false h]
    by_cases h1 : la ≤ 1048576
    · by_cases h2 : lb ≤ 1048576
      · go_enter Trym.func8, Trym.ntmps8
        go_wp2
        go_ret
        exact ⟨rfl, rfl⟩
      · go_enter Trym.func8, Trym.ntmps8
        go_wp2
        go_ret
        exact ⟨rfl, rfl⟩
    · go_enter Trym.func8, Trym.ntmps8
      go_wp2
      go_ret
      exact ⟨rfl, rfl⟩

end Go.Proofs.Qxb6600746aMods
