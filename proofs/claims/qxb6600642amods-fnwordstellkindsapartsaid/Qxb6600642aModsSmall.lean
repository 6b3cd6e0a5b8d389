import Derived.Test.Qxb6600642aModsRows
import Derived.WalkKit
import Derived.WalkSpells
import Derived.WalkLawsBesides
import Derived.Deep.OwnRows
import Derived.Deep.WholeRow
namespace Go.Proofs.Qxb6600642aMods
open Go.RowKit

theorem hide {p : Prop} (h : p) : Hid p := h

/-- A slice of bytes at the head of a block (or empty): byte j reads 'bt j', nought behind its end. -/
structure Rd (w : World) (a : Option Addr) (len : Nat) (bt : Nat → Int) : Prop where
  cells : 0 < len → ∃ g, a = some ⟨g, 0, none⟩ ∧ g < w.heap.size ∧ ∀ j, j < len → w.cell? ⟨g, j, none⟩ = some (.int .u8 (bt j))
  bd : ∀ j, 0 ≤ bt j ∧ bt j ≤ 255
  past : ∀ j, len ≤ j → bt j = 0

theorem Rd.later {w w' : World} {a : Option Addr} {len : Nat} {bt : Nat → Int} (h : Rd w a len bt) (hb : Below w.heap.size w w') : Rd w' a len bt := by
  refine ⟨fun hl => ?_, h.bd, h.past⟩
  obtain ⟨g, e, hg, hc⟩ := h.cells hl
  exact ⟨g, e, Nat.lt_of_lt_of_le hg hb.size, fun j hj => (hb.cell (by exact hg)).trans (hc j hj)⟩

/-! ### rows of numbers -/
def irow (kd : IntKind) (n : Nat) (f : Nat → Int) : Array Value := ((List.range n).map fun i => Value.int kd (f i)).toArray
theorem irow_size (kd : IntKind) (n : Nat) (f : Nat → Int) : (irow kd n f).size = n := by simp [irow]
theorem irow_at (kd : IntKind) (n : Nat) (f : Nat → Int) (i : Nat) (h : i < n) : (irow kd n f)[i]? = some (.int kd (f i)) := by
  simp [irow, List.getElem?_range h]
theorem irow_set (kd : IntKind) (n : Nat) (f : Nat → Int) (k : Nat) (v : Int) : (irow kd n f).setIfInBounds k (.int kd v) = irow kd n fun i => if i = k then v else f i := by
  apply Array.ext_getElem?
  intro i
  rw [Array.getElem?_setIfInBounds, irow_size]
  by_cases hi : i < n
  · rw [irow_at _ _ _ _ hi, irow_at _ _ _ _ hi]
    by_cases hk : k = i
    · subst hk; simp [hi]
    · simp [hk, show ¬ i = k from fun e => hk e.symm]
  · have e1 : (irow kd n f)[i]? = none := by simp [irow_size]; omega
    have e2 : (irow kd n fun i => if i = k then v else f i)[i]? = none := by simp [irow_size]; omega
    rw [e1, e2]
    split <;> simp_all
theorem irow_congr {kd : IntKind} {n : Nat} {f g : Nat → Int} (h : ∀ i, i < n → f i = g i) : irow kd n f = irow kd n g := by
  apply Array.ext_getElem?
  intro i
  by_cases hi : i < n
  · rw [irow_at _ _ _ _ hi, irow_at _ _ _ _ hi, h i hi]
  · have e1 : (irow kd n f)[i]? = none := by simp [irow_size]; omega
    have e2 : (irow kd n g)[i]? = none := by simp [irow_size]; omega
    rw [e1, e2]
theorem irow_one (kd : IntKind) (n : Nat) (f : Nat → Int) : (irow kd n f).all (·.oneCell') = true := by
  rw [Array.all_eq_true_iff_forall_mem]
  intro x hx
  simp only [irow, List.mem_toArray, List.mem_map] at hx
  obtain ⟨_, _, rfl⟩ := hx
  rfl
theorem irow_made (kd : IntKind) (n : Nat) : madeCells #[.int kd 0] n = irow kd n fun _ => 0 := by
  apply Array.ext_getElem?
  intro i
  by_cases hi : i < n
  · rw [irow_at _ _ _ _ hi]
    simp [madeCells, hi, Nat.mod_one]
  · have e1 : (irow kd n fun _ => 0)[i]? = none := by simp [irow_size]; omega
    rw [e1]
    simp [madeCells, hi]

/-- What a block of numbers says of its cells. -/
theorem irow_cell {w : World} {g : Nat} {kd : IntKind} {n : Nat} {f : Nat → Int} {t : TypeId} (h : w.heap[g]? = some (.cells (irow kd n f) t (0, 0))) (i : Nat) (hi : i < n) : w.cell? ⟨g, i, none⟩ = some (.int kd (f i)) := by
  rw [cell_of_row w g i _ t (0, 0) h, irow_at _ _ _ _ hi]
/-- A store into a block of numbers. -/
theorem irow_store {w : World} {g : Nat} {kd : IntKind} {n : Nat} {f f' : Nat → Int} {t : TypeId} (h : w.heap[g]? = some (.cells (irow kd n f) t (0, 0))) (k : Nat) (v : Int) (he : ∀ i, i < n → f' i = if i = k then v else f i) :
    (w.setCell ⟨g, k, none⟩ (.int kd v)).heap[g]? = some (.cells (irow kd n f') t (0, 0)) := by
  rw [heap_setCell_same w g k _ t _ h, irow_set, irow_congr he]

/-- The bytes that came in, nought behind the end. -/
def btOf (z : List Int) (len : Nat) (j : Nat) : Int := if j < len then z.getD j 0 else 0

/-- WHAT THE WALK IS TOLD OF A SLICE OF INTEGERS THAT CAME IN (the shell's own words). -/
def IsRow (k : IntKind) (w : World) (a : Option Addr) (len cap : Nat) (zs : List Int) : Prop :=
  (a = none ∧ len = 0 ∧ cap = 0 ∧ zs = []) ∨
  ∃ x, a = some x ∧ len ≤ cap ∧ cap ≤ maxLen ∧ zs.length = cap ∧ (∀ i, i < zs.length → w.cell? (x.add i) = some (.int k (zs.getD i 0))) ∧ ∀ n ∈ zs, (Lit.int k n).wf = true

theorem wf_u8 {n : Int} (h : (Lit.int .u8 n).wf = true) : 0 ≤ n ∧ n ≤ 255 := by
  have h' : IntKind.u8.min ≤ n ∧ n ≤ IntKind.u8.max := by simpa [Lit.wf] using h
  exact h'

theorem btOf_bd {z : List Int} (h : ∀ n ∈ z, (Lit.int .u8 n).wf = true) (len j : Nat) : 0 ≤ btOf z len j ∧ btOf z len j ≤ 255 := by
  unfold btOf
  split
  · by_cases hj : j < z.length
    · have e : z.getD j 0 = z[j] := by simp [List.getD, hj]
      rw [e]
      exact wf_u8 (h _ (List.getElem_mem hj))
    · have e : z.getD j 0 = 0 := by simp [List.getD, hj]
      rw [e]; omega
  · omega

theorem info5 : (Trym.prog.info? 5).map (fun i => (i.zero, i.size, i.bytes)) = some (some (.int .u8 0), 1, 1) := by kernel_rfl

theorem irow_below {B g : Nat} {w wr : World} {u : Value} {k : Nat} (h : Below B w wr) (hB : B ≤ g) : Below B w (wr.setCell ⟨g, k, none⟩ u) := h.setCell (by simpa using hB) u

set_option maxHeartbeats 400000 in
theorem copy_some (x : Addr) (len cap : Nat) (z : List Int) (w : World) (hl : len ≤ 1048576) (hc : ∀ i, i < len → w.cell? (x.add i) = some (.int .u8 (z.getD i 0))) :
    Calls Trym.prog 7 #[.slice (some x) len cap] w fun e w' => e = .returned (.slice (some ⟨w.heap.size, 0, none⟩) len len) ∧ Below w.heap.size w w' ∧ w.heap.size < w'.heap.size ∧
      w'.heap[w.heap.size]? = some (.cells (irow .u8 len fun j => z.getD j 0) 5 (0, 0)) := by
  have hmk := run_make_row' (P := Trym.prog) 22 5 (.int .u8 0) 1 Trym.underlying22 info5 rfl .i64 .i64 len (by omega) (by omega)
  have hnil := fun (w : World) (a : Option Addr) (n c : Nat) => Lib.run_eql_slice_nil (P := Trym.prog) w 22 5 a n c 0 0 Trym.underlying22
  go_enter Trym.func7, Trym.ntmps7
  go_wp2
  rw [irow_made]
  go_loopw [4] (fun i wr => ∃ k : Nat, k ≤ len ∧ i = .int .i64 k ∧ Below w.heap.size w wr ∧ w.heap.size < wr.heap.size ∧ wr.heap[w.heap.size]? = some (.cells (irow .u8 len fun j => if j < k then z.getD j 0 else 0) 5 (0, 0))) (fun i _ => len - (intOf i).toNat)
  case atStart => exact ⟨0, Nat.zero_le _, rfl, (Below.refl _ _).alloc (Nat.le_refl _) _, by simp, by rw [heap_alloc_new]; rfl⟩
  case round =>
    obtain ⟨k, hk, rfl, hbel, hsz, hrow⟩ := hrel
    by_cases hlt : k < len
    · obtain ⟨b, off, spot⟩ := x
      have hck := hc k hlt
      obtain rfl : spot = none := by simpa [Addr.add] using World.cell?_spot (hc 0 (by omega))
      rw [Addr.add_lit] at hck
      have hb : b < w.heap.size := block_lt_of_cell hck
      have hx : wr.cell? ⟨b, off + k, none⟩ = some (.int .u8 (z.getD k 0)) := (hbel.cell (by exact hb)).trans hck
      clear hck
      have hown := irow_cell hrow k hlt
      have hfz := frozen_of_row wr w.heap.size k _ _ hrow
      have HR := hrow
      have HB : Hid (Below w.heap.size w wr) := hbel
      have HR : Hid (wr.heap[w.heap.size]? = some (.cells (irow .u8 len fun j => if j < k then z.getD j 0 else 0) 5 (0, 0))) := hrow
      clear hrow hbel hc hmk hnil
      go_wp2
      go_roundw
      case rel => exact ⟨k + 1, by omega, by go_num, irow_below HB.out (Nat.le_refl _), by simpa using hsz, irow_store HR.out k _ (fun i _ => by by_cases e : i = k <;> by_cases e2 : i < k <;> simp [e, e2] <;> omega)⟩
      case measure => simp [intOf]; omega
    · obtain rfl : k = len := by omega
      have HR : Hid (wr.heap[w.heap.size]? = some (.cells (irow .u8 k fun j => if j < k then z.getD j 0 else 0) 5 (0, 0))) := hrow
      have HB : Hid (Below w.heap.size w wr) := hbel
      clear hrow hbel hc hmk hnil
      go_wp2
      go_ret
      exact ⟨rfl, HB.out, hsz, by rw [HR.out]; congr 2; exact irow_congr fun i hi => by simp [hi]⟩

set_option maxHeartbeats 400000 in
theorem copy_nil (w : World) :
    Calls Trym.prog 7 #[.slice none 0 0] w fun e w' => e = .returned (.slice none 0 0) ∧ w' = w := by
  have hnil := fun (w : World) (a : Option Addr) (n c : Nat) => Lib.run_eql_slice_nil (P := Trym.prog) w 22 5 a n c 0 0 Trym.underlying22
  go_enter Trym.func7, Trym.ntmps7
  go_wp2
  go_ret
  exact ⟨rfl, rfl⟩

/-- 'cloneBytes': a fresh copy, at the head of a block of its own (nil stays nil). -/
theorem copy_any (a : Option Addr) (len cap : Nat) (z : List Int) (w : World) (hr : IsRow .u8 w a len cap z) (hl : len ≤ 1048576) :
    Calls Trym.prog 7 #[.slice a len cap] w fun e w' => ∃ a', e = .returned (.slice a' len len) ∧ Below w.heap.size w w' ∧ Rd w' a' len (btOf z len) := by
  rcases hr with ⟨rfl, rfl, rfl, rfl⟩ | ⟨x, rfl, h1, _, h3, hc, hwf⟩
  · refine (copy_nil w).mono ?_
    rintro e w' ⟨rfl, rfl⟩
    exact ⟨none, rfl, Below.refl _ _, fun h => absurd h (by omega), btOf_bd (by simp) 0, fun j _ => by simp [btOf]⟩
  · refine (copy_some x len cap z w hl (fun i hi => hc i (by omega))).mono ?_
    rintro e w' ⟨rfl, hb, hs, hrow⟩
    refine ⟨_, rfl, hb, fun _ => ⟨_, rfl, hs, fun j hj => ?_⟩, btOf_bd hwf len, fun j hj => by simp [btOf, Nat.not_lt.2 hj]⟩
    rw [irow_cell hrow j hj]
    simp [btOf, hj]

/-- What came in reads the same later on. -/
theorem IsRow.later {w w' : World} {a : Option Addr} {len cap : Nat} {z : List Int} (h : IsRow .u8 w a len cap z) (hb : Below w.heap.size w w') : IsRow .u8 w' a len cap z := by
  rcases h with h | ⟨x, h0, h1, h2, h3, h4, h5⟩
  · exact Or.inl h
  · exact Or.inr ⟨x, h0, h1, h2, h3, fun i hi => (hb.cell (World.block_lt_of_cell? _ _ (h4 i hi))).trans (h4 i hi), h5⟩

theorem IsRow.len_le {w : World} {a : Option Addr} {len cap : Nat} {z : List Int} (h : IsRow .u8 w a len cap z) : len ≤ maxLen := by
  rcases h with ⟨_, rfl, _, _⟩ | ⟨_, _, h1, h2, _⟩
  · exact Nat.zero_le _
  · exact Nat.le_trans h1 h2

end Go.Proofs.Qxb6600642aMods
