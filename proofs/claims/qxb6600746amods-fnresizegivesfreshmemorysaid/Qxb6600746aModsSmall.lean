import Derived.Test.Qxb6600746aModsRows
import Derived.WalkKit
import Derived.WalkSpells
import Derived.WalkLawsBesides
import Derived.Deep.OwnRows
import Derived.Deep.WholeRow
import Derived.Deep.QuietTactic
import Derived.BigQuiet
import Derived.Laws.CopyOwn
namespace Go.Proofs.Qxb6600746aMods
open Go.RowKit

theorem hide {p : Prop} (h : p) : Hid p := h
theorem below_drewN {B : Nat} {a w : World} (h : Below B a w) (n : Nat) : Below B a (w.drewN n) := h.trans ⟨rfl, rfl, rfl, Nat.le_refl _, fun _ _ => rfl⟩

/-! ### rows of numbers -/
def irow (kd : IntKind) (n : Nat) (f : Nat → Int) : Array Value := ((List.range n).map fun i => Value.int kd (f i)).toArray
theorem irow_size (kd : IntKind) (n : Nat) (f : Nat → Int) : (irow kd n f).size = n := by simp [irow]
theorem irow_at (kd : IntKind) (n : Nat) (f : Nat → Int) (i : Nat) (h : i < n) : (irow kd n f)[i]? = some (.int kd (f i)) := by
  simp [irow, List.getElem?_range h]
theorem irow_set (kd : IntKind) (n : Nat) (f : Nat → Int) (k : Nat) (v : Int) : (irow kd n f).setIfInBounds k (.int kd v) = irow kd n fun i => if i = k then v else f i := by
  apply Array.ext_getElem?
  intro i
  rw [Array.getElem?_setIfInBounds, irow_size]
  by_cases hi : i < n
  · rw [irow_at _ _ _ _ hi, irow_at _ _ _ _ hi]
    by_cases hk : k = i
    · subst hk; simp [hi]
    · simp [hk, show ¬ i = k from fun e => hk e.symm]
  · have e1 : (irow kd n f)[i]? = none := by simp [irow_size]; omega
    have e2 : (irow kd n fun i => if i = k then v else f i)[i]? = none := by simp [irow_size]; omega
    rw [e1, e2]
    split <;> simp_all
theorem irow_congr {kd : IntKind} {n : Nat} {f g : Nat → Int} (h : ∀ i, i < n → f i = g i) : irow kd n f = irow kd n g := by
  apply Array.ext_getElem?
  intro i
  by_cases hi : i < n
  · rw [irow_at _ _ _ _ hi, irow_at _ _ _ _ hi, h i hi]
  · have e1 : (irow kd n f)[i]? = none := by simp [irow_size]; omega
    have e2 : (irow kd n g)[i]? = none := by simp [irow_size]; omega
    rw [e1, e2]
theorem irow_one (kd : IntKind) (n : Nat) (f : Nat → Int) : (irow kd n f).all (·.oneCell') = true := by
  rw [Array.all_eq_true_iff_forall_mem]
  intro x hx
  simp only [irow, List.mem_toArray, List.mem_map] at hx
  obtain ⟨_, _, rfl⟩ := hx
  rfl
theorem irow_made (kd : IntKind) (n : Nat) : madeCells #[.int kd 0] n = irow kd n fun _ => 0 := by
  apply Array.ext_getElem?
  intro i
  by_cases hi : i < n
  · rw [irow_at _ _ _ _ hi]
    simp [madeCells, hi, Nat.mod_one]
  · have e1 : (irow kd n fun _ => 0)[i]? = none := by simp [irow_size]; omega
    rw [e1]
    simp [madeCells, hi]

/-- What a block of numbers says of its cells. -/
theorem irow_cell {w : World} {g : Nat} {kd : IntKind} {n : Nat} {f : Nat → Int} {t : TypeId} (h : w.heap[g]? = some (.cells (irow kd n f) t (0, 0))) (i : Nat) (hi : i < n) : w.cell? ⟨g, i, none⟩ = some (.int kd (f i)) := by
  rw [cell_of_row w g i _ t (0, 0) h, irow_at _ _ _ _ hi]
/-- A store into a block of numbers. -/
theorem irow_store {w : World} {g : Nat} {kd : IntKind} {n : Nat} {f f' : Nat → Int} {t : TypeId} (h : w.heap[g]? = some (.cells (irow kd n f) t (0, 0))) (k : Nat) (v : Int) (he : ∀ i, i < n → f' i = if i = k then v else f i) :
    (w.setCell ⟨g, k, none⟩ (.int kd v)).heap[g]? = some (.cells (irow kd n f') t (0, 0)) := by
  rw [heap_setCell_same w g k _ t _ h, irow_set, irow_congr he]


/-- WHAT THE WALK IS TOLD OF A SLICE OF INTEGERS THAT CAME IN (the shell's own words). -/
def IsRow (k : IntKind) (w : World) (a : Option Addr) (len cap : Nat) (zs : List Int) : Prop :=
  (a = none ∧ len = 0 ∧ cap = 0 ∧ zs = []) ∨
  ∃ x, a = some x ∧ len ≤ cap ∧ cap ≤ maxLen ∧ zs.length = cap ∧ (∀ i, i < zs.length → w.cell? (x.add i) = some (.int k (zs.getD i 0))) ∧ ∀ n ∈ zs, (Lit.int k n).wf = true

/-- The bytes of a slice, wherever it lies: byte i reads 'f i'. -/
def Src (w : World) (a : Option Addr) (len : Nat) (f : Nat → Int) : Prop := 0 < len → ∃ b off, a = some ⟨b, off, none⟩ ∧ b < w.heap.size ∧ ∀ i, i < len → w.cell? ⟨b, off + i, none⟩ = some (.int .u8 (f i))

theorem Src.later {w w' : World} {a : Option Addr} {len : Nat} {f : Nat → Int} (h : Src w a len f) (hb : Below w.heap.size w w') : Src w' a len f := by
  intro hl
  obtain ⟨b, off, e, hlt, hc⟩ := h hl
  exact ⟨b, off, e, Nat.lt_of_lt_of_le hlt hb.size, fun i hi => (hb.cell (by exact hlt)).trans (hc i hi)⟩

theorem IsRow.src {w : World} {a : Option Addr} {len cap : Nat} {z : List Int} (h : IsRow .u8 w a len cap z) : Src w a len fun i => z.getD i 0 := by
  intro hl
  rcases h with ⟨_, rfl, _, _⟩ | ⟨x, rfl, h1, _, h3, hc, _⟩
  · omega
  · obtain ⟨b, off, spot⟩ := x
    obtain rfl : spot = none := by simpa [Addr.add] using World.cell?_spot (hc 0 (by omega))
    refine ⟨b, off, rfl, ?_, fun i hi => ?_⟩
    · exact World.block_lt_of_cell? _ _ (hc 0 (by omega))
    · have := hc i (by omega)
      rwa [Addr.add_lit] at this

theorem wf_u8 {n : Int} (h : (Lit.int .u8 n).wf = true) : 0 ≤ n ∧ n ≤ 255 := by
  have h' : IntKind.u8.min ≤ n ∧ n ≤ IntKind.u8.max := by simpa [Lit.wf] using h
  exact h'

theorem IsRow.bd {w : World} {a : Option Addr} {len cap : Nat} {z : List Int} (h : IsRow .u8 w a len cap z) (i : Nat) : 0 ≤ z.getD i 0 ∧ z.getD i 0 ≤ 255 := by
  have hw : ∀ n ∈ z, (Lit.int .u8 n).wf = true := by
    rcases h with ⟨_, _, _, rfl⟩ | ⟨_, _, _, _, _, _, h⟩
    · simp
    · exact h
  by_cases hj : i < z.length
  · have e : z.getD i 0 = z[i] := by simp [List.getD, hj]
    rw [e]
    exact wf_u8 (hw _ (List.getElem_mem hj))
  · have e : z.getD i 0 = 0 := by simp [List.getD, hj]
    rw [e]; omega

theorem IsRow.len_le {w : World} {a : Option Addr} {len cap : Nat} {z : List Int} (h : IsRow .u8 w a len cap z) : len ≤ maxLen := by
  rcases h with ⟨_, rfl, _, _⟩ | ⟨_, _, h1, h2, _⟩
  · exact Nat.zero_le _
  · exact Nat.le_trans h1 h2

theorem IsRow.nil {w : World} {a : Option Addr} {len cap : Nat} {z : List Int} (h : IsRow .u8 w a len cap z) : a = none → len = 0 ∧ cap = 0 := by
  rcases h with ⟨_, h1, h2, _⟩ | ⟨_, h, _⟩
  · exact fun _ => ⟨h1, h2⟩
  · intro e; rw [e] at h; cases h

/-- A row of the call's own, from its head on. -/
theorem Src.own {w : World} {g n len : Nat} {f f' : Nat → Int} (h : w.heap[g]? = some (.cells (irow .u8 n f) 5 (0, 0))) (hl : len ≤ n) (he : ∀ i, i < len → f' i = f i) : Src w (some ⟨g, 0, none⟩) len f' := by
  intro _
  refine ⟨g, 0, rfl, (Array.getElem?_eq_some_iff.1 h).1, fun i hi => ?_⟩
  rw [Nat.zero_add, irow_cell h i (by omega), he i hi]

theorem info5 : (Trym.prog.info? 5).map (fun i => (i.zero, i.size, i.bytes)) = some (some (.int .u8 0), 1, 1) := by kernel_rfl
theorem size5 : (Trym.prog.info? 5).map (·.size) = some 1 := by kernel_rfl

/-- 'make([]byte, l, c)'. -/
theorem mk_bytes (l c : Nat) (h : l ≤ c) (hc : c ≤ 1000000000) (w : World) :
    (Instr.makeSlice 22 (.int .i64 (l : Int)) (.int .i64 (c : Int))).run Trym.prog w = .ok (.slice (some ⟨w.heap.size, 0, none⟩) l c) (w.alloc (.cells (irow .u8 c fun _ => 0) 5)) := by
  obtain ⟨i, hi, hz0, hz1, hz2⟩ := info_parts info5
  have hr := run_make (P := Trym.prog) w 22 5 i (.int .u8 0) Trym.underlying22 hi hz0 .i64 .i64 l c (by omega) (by omega) (by rw [hz2]; omega) (by omega)
  simp only [Int.toNat_natCast, hz1, Nat.mul_one] at hr
  rw [← irow_made]
  exact hr

theorem irow_list (n : Nat) (f : Nat → Int) : (irow .u8 n f).toList.toArray = irow .u8 n f := by simp

/-- What a copy to the head of a row leaves. -/
theorem splice_irow (n len : Nat) (f g : Nat → Int) (h : len ≤ n) :
    (splice (irow .u8 n g).toList 0 ((List.range len).map fun i => Value.int .u8 (f i))).toArray = irow .u8 n fun j => if j < len then f j else g j := by
  have hL : (irow .u8 n g).toList.length = n := by simp [irow_size]
  have hlen : (splice (irow .u8 n g).toList 0 ((List.range len).map fun i => Value.int .u8 (f i))).length = n := by rw [length_splice _ _ _ (by simp [irow_size]; omega), hL]
  apply Array.ext_getElem?
  intro i
  by_cases hn : i < n
  · rw [irow_at _ _ _ _ hn]
    unfold splice
    by_cases hi : i < len
    · simp [hi, List.getElem?_append]
    · simp [hi, List.getElem?_append, List.getElem?_drop, show len + (i - len) = i by omega, irow_at _ _ _ _ hn]
  · have e : (irow .u8 n fun j => if j < len then f j else g j)[i]? = none := by simp [irow_size]; omega
    rw [e, List.getElem?_toArray, List.getElem?_eq_none (by omega)]

/-- The source of such a copy. -/
theorem copy_src {w w' : World} {a dp : Option Addr} {len : Nat} {f : Nat → Int} (h : Src w a len f) (hb : Below w.heap.size w w') :
    0 < ((List.range len).map fun i => Value.int .u8 (f i)).length → dp = dp ∧ ∃ ad, a = some ad ∧ ∀ j v, ((List.range len).map fun i => Value.int .u8 (f i))[j]? = some v → w'.cell? (ad.add j) = some v := by
  intro hpos
  obtain ⟨b, off, e, hlt, hc⟩ := h (by simpa using hpos)
  refine ⟨rfl, ⟨b, off, none⟩, e, fun j v hj => ?_⟩
  have hj' : j < len := by have := (List.getElem?_eq_some_iff.1 hj).1; simpa using this
  rw [Addr.add_lit]
  simp [hj'] at hj
  rw [← hj]
  exact (hb.cell (by exact hlt)).trans (hc j hj')

set_option maxHeartbeats 400000 in
/-- 'resize': the bytes in a row of the call's own, of capacity s. -/
theorem resize_any (a : Option Addr) (len cap s : Nat) (f : Nat → Int) (w : World) (hl : len ≤ s) (hs : s ≤ 65536) (hr : Src w a len f) :
    Calls Trym.prog 10 #[.slice a len cap, .int .i64 s] w fun e w' => e = .returned (.slice (some ⟨w.heap.size, 0, none⟩) len s) ∧ Below w.heap.size w w' ∧
      w'.heap[w.heap.size]? = some (.cells (irow .u8 s fun j => if j < len then f j else 0) 5 (0, 0)) := by
  have hmk := fun w => mk_bytes len s hl (by omega) w
  have HR := hide hr
  clear hr
  go_enter Trym.func10, Trym.ntmps10
  go_wp2_with (refine wpList_copy_splice rfl (.tmp 10) (.tmp 11) 22 22 rfl 5 Trym.underlying22 size5 (some ⟨w.heap.size, 0, none⟩) a len s len cap rfl rfl w.heap.size 0 (irow .u8 s fun _ => 0).toList 5 (by rw [irow_list]; exact heap_alloc_new _ _) ((List.range len).map fun i => Value.int .u8 (f i)) (by simp) (copy_src HR.out ((Below.refl _ _).alloc (Nat.le_refl _) _)) (by simpa [irow_size] using hl) (by intro v hv; obtain ⟨_, _, rfl⟩ := List.mem_map.1 hv; rfl) w.heap.size w ((Below.refl _ _).alloc (Nat.le_refl _) _) (Nat.le_refl _) ?_)
  intro w1 hg hb
  clear hmk HR
  go_wp2
  go_ret
  refine ⟨rfl, hb, ?_⟩
  rw [hg.out, splice_irow s len f _ hl]

set_option maxHeartbeats 400000 in
/-- 'ZZresize' hands it on. -/
theorem zzresize_any (a : Option Addr) (len cap s : Nat) (f : Nat → Int) (w : World) (hl : len ≤ s) (hs : s ≤ 65536) (hr : Src w a len f) :
    Calls Trym.prog 6 #[.slice a len cap, .int .i64 s] w fun e w' => e = .returned (.slice (some ⟨w.heap.size, 0, none⟩) len s) ∧ Below w.heap.size w w' ∧
      w'.heap[w.heap.size]? = some (.cells (irow .u8 s fun j => if j < len then f j else 0) 5 (0, 0)) := by
  have HC := hide (resize_any a len cap s f w hl hs hr)
  clear hr
  go_enter Trym.func6, Trym.ntmps6
  go_wp2_with fail
  refine HC.out.mono ?_
  rintro e w1 ⟨rfl, hb, hg⟩
  have HB := hide hb
  have HG := hide hg
  clear HC hb hg
  go_wp2
  go_ret
  exact ⟨rfl, HB.out, HG.out⟩

set_option maxHeartbeats 400000 in
/-- 'zzSameBytesB1': two slices of the same bytes. -/
theorem same_any (a b : Option Addr) (len ca cb : Nat) (f : Nat → Int) (w : World) (hl : len ≤ 1048576) (ha : Src w a len f) (hb : Src w b len f) :
    Calls Trym.prog 7 #[.slice a len ca, .slice b len cb] w fun e w' => e = .returned (.bool true) ∧ ∃ n, w' = w.drewN n := by
  have HA := hide ha
  have HB := hide hb
  clear ha hb
  go_enter Trym.func7, Trym.ntmps7
  go_wp2
  go_loopw [5] (fun i wr => ∃ k : Nat, k ≤ len ∧ i = .int .i64 k ∧ ∃ n, wr = w.drewN n) (fun i _ => len - (intOf i).toNat)
  case atStart => exact ⟨0, Nat.zero_le _, rfl, 0, rfl⟩
  case round =>
    obtain ⟨k, hk, rfl, n, rfl⟩ := hrel
    by_cases hlt : k < len
    · obtain ⟨g1, o1, rfl, _, hc1⟩ := HA.out (by omega)
      obtain ⟨g2, o2, rfl, _, hc2⟩ := HB.out (by omega)
      have c1 := hc1 k hlt
      have c2 := hc2 k hlt
      clear hc1 hc2 HA HB
      go_wp2
      go_quiet (fail)
      go_wp2
      go_roundw
      case rel => exact ⟨k + 1, by omega, by go_num, _, rfl⟩
      case measure => simp [intOf]; omega
    · clear HA HB
      go_wp2
      go_ret
      exact ⟨rfl, n, rfl⟩

set_option maxHeartbeats 400000 in
theorem bytesK_any (a : Option Addr) (len cap : Nat) (v : Int) (w : World) (ha : len ≤ maxLen) :
    Calls Trym.prog 5 #[.slice a len cap, .int .i64 v] w fun e w' => e = .returned (.bool (decide (len ≤ 1048576))) ∧ w' = w := by
  unfold maxLen at ha
  by_cases h : len ≤ 1048576
  · rw [decide_eq_true h]
    go_enter Trym.func5, Trym.ntmps5
    go_wp2
    go_ret
    exact ⟨rfl, rfl⟩
  · rw [decide_eq_false h]
    go_enter Trym.func5, Trym.ntmps5
    go_wp2
    go_ret
    exact ⟨rfl, rfl⟩

end Go.Proofs.Qxb6600746aMods
