import Derived.Test.Qxb6600746aModsCopy
import Derived.Laws.BitsAllLaws
import Derived.Laws.AppendOwn
namespace Go.Proofs.Qxb6600746aMods
open Go.RowKit

/-- The array of its own's bytes: buf, room, the first k of extra. -/
def arrF (f g : Nat → Int) (n s k j : Nat) : Int := if j < n then f j else if s ≤ j ∧ j < s + k then g (j - s) else 0
theorem arrF_zero (f g : Nat → Int) (n s j : Nat) : arrF f g n s 0 j = if j < n then f j else 0 := by
  unfold arrF
  by_cases h : j < n
  · simp [h]
  · rw [if_neg h, if_neg h, if_neg (by omega)]
theorem arrF_next (f g : Nat → Int) (n s k i : Nat) (hn : n ≤ s) : arrF f g n s (k + 1) i = if i = s + k then g k else arrF f g n s k i := by
  unfold arrF
  by_cases h : i = s + k
  · rw [if_pos h, if_neg (by omega), if_pos (by omega), show i - s = k by omega]
  · rw [if_neg h]
    by_cases h1 : i < n
    · rw [if_pos h1, if_pos h1]
    · rw [if_neg h1, if_neg h1]
      by_cases h2 : s ≤ i ∧ i < s + k
      · rw [if_pos h2, if_pos (by omega)]
      · rw [if_neg h2, if_neg (by omega)]

/-- What stands in memory behind the set-up: the array of its own, and the copies of buf and extra. -/
structure St (w wr : World) (G1 G2 n s m : Nat) (f g : Nat → Int) : Prop where
  bel : Below w.heap.size w wr
  arr : wr.heap[w.heap.size]? = some (.cells (irow .u8 (s + m) (arrF f g n s m)) 5 (0, 0))
  want : wr.heap[G1]? = some (.cells (irow .u8 n f) 5 (0, 0))
  ext : wr.heap[G2]? = some (.cells (irow .u8 m g) 5 (0, 0))

theorem St.later {w wr wr' : World} {G1 G2 n s m : Nat} {f g : Nat → Int} (h : St w wr G1 G2 n s m f g) {B : Nat} (hN : w.heap.size < B) (h1 : G1 < B) (h2 : G2 < B) (hb : Below B wr wr') : St w wr' G1 G2 n s m f g :=
  ⟨h.bel.trans (hb.mono (by omega)), (hb.block _ hN).trans h.arr, (hb.block _ h1).trans h.want, (hb.block _ h2).trans h.ext⟩

/-- The bytes of the resized slice while they are turned. -/
def nbF (f : Nat → Int) (n k j : Nat) : Int := if j < k then 255 - f j else if j < n then f j else 0
theorem nbF_next (f : Nat → Int) (n k i : Nat) : nbF f n (k + 1) i = if i = k then 255 - f k else nbF f n k i := by
  unfold nbF
  by_cases h : i = k
  · subst h; simp
  · rw [if_neg h]
    by_cases h1 : i < k
    · rw [if_pos h1, if_pos (by omega)]
    · rw [if_neg h1, if_neg (by omega)]

theorem under22 : Trym.prog.underlying 22 = some (.slice (Trym.prog.elem 22)) := by kernel_rfl

/-- 'arr[size : size+m]': where it begins (with nothing behind size: at the array's head). -/
theorem cut_end (N s m : Nat) : ∃ E : Addr, (0 < m → E = ⟨N, s, none⟩) ∧ ∀ w : World,
    (Instr.slice 22 (.slice (some ⟨N, 0, none⟩) (s + m) (s + m)) (some (.int .i64 (s : Int))) (some (.int .i64 ((s : Int) + (m : Int)))) none).run Trym.prog w = .ok (.slice (some E) m m) w := by
  by_cases h : m = 0
  · subst h
    refine ⟨⟨N, 0, none⟩, fun h => absurd h (by omega), fun w => ?_⟩
    rw [run_slice_lh (P := Trym.prog) (ht := under22) (h0 := by omega) (h1 := by omega) (h2 := by omega)]
    simp [go_sem, sliced]
  · refine ⟨⟨N, s, none⟩, fun _ => rfl, fun w => ?_⟩
    rw [run_slice_lh (P := Trym.prog) (ht := under22) (h0 := by omega) (h1 := by omega) (h2 := by omega)]
    simp [go_sem, sliced, h]
    omega

theorem mk_sum (s m : Nat) (hs : s + m ≤ 1000000000) (w : World) :
    (Instr.makeSlice 22 (.int .i64 ((s : Int) + (m : Int))) (.int .i64 ((s : Int) + (m : Int)))).run Trym.prog w = .ok (.slice (some ⟨w.heap.size, 0, none⟩) (s + m) (s + m)) (w.alloc (.cells (irow .u8 (s + m) fun _ => 0) 5)) := by
  have h := mk_bytes (s + m) (s + m) (Nat.le_refl _) hs w
  rw [Int.natCast_add] at h
  exact h


theorem xor_all : ∀ x : Nat, x < 256 → 255 ^^^ x = 255 - x := by decide +kernel
/-- '^x' on a byte, as the walk spells it. -/
theorem not_u8 (x : Int) (h : 0 ≤ x ∧ x ≤ 255) : bits .xor .u8 (if IntKind.u8.signed = true then -1 else IntKind.u8.max) x = 255 - x := by
  have e : (if IntKind.u8.signed = true then (-1 : Int) else IntKind.u8.max) = 255 := rfl
  rw [e, u8_xor 255 x (by omega) (by omega) h.1 (by omega)]
  have := xor_all x.toNat (by omega)
  rw [show (255 : Int).toNat = 255 from rfl, this]
  omega

/-- A list of bytes as cells. -/
def lst (n : Nat) (f : Nat → Int) : List Value := (List.range n).map fun j => Value.int .u8 (f j)
theorem lst_len (n : Nat) (f : Nat → Int) : (lst n f).length = n := by simp [lst]
theorem lst_at (n : Nat) (f : Nat → Int) (j : Nat) (h : j < n) : (lst n f)[j]? = some (.int .u8 (f j)) := by simp [lst, h]
theorem lst_one (n : Nat) (f : Nat → Int) : ∀ u ∈ lst n f, u.oneCell' = true := by
  intro u hu
  obtain ⟨_, _, rfl⟩ := List.mem_map.1 hu
  rfl

/-- The resized and turned slice is the call's own. -/
theorem own_of_row {w : World} {base G n s : Nat} {f : Nat → Int} (h : w.heap[G]? = some (.cells (irow .u8 s (nbF f n n)) 5 (0, 0))) (hB : base ≤ G) (hn : n ≤ s) (hs : s ≤ maxLen) :
    w.ownsRow base 5 1 (.slice (some ⟨G, 0, none⟩) n s) n (lst n fun j => 255 - f j) := by
  refine ⟨by simp [lst_len], Or.inr ⟨G, s, _, rfl, hB, h, hn, hs, by simp [irow_size], ?_⟩⟩
  apply List.ext_getElem?
  intro i
  rw [Nat.mul_one]
  by_cases hi : i < n
  · rw [lst_at _ _ _ hi, List.getElem?_take_of_lt hi]
    have := irow_at .u8 s (nbF f n n) i (by omega)
    simpa [nbF, hi] using this
  · rw [List.getElem?_eq_none (by simp; omega), List.getElem?_eq_none (by rw [lst_len]; omega)]

/-- The bytes that are appended lie in the array of its own behind the room. -/
theorem news_at {w wr : World} {G1 G2 n s m : Nat} {f g : Nat → Int} (h : St w wr G1 G2 n s m f g) (hn : n ≤ s) {E : Addr} (hE : 0 < m → E = ⟨w.heap.size, s, none⟩) : ∀ j u, (lst m g)[j]? = some u → wr.cell? (E.add j) = some u := by
  intro j u hu
  have hj : j < m := by have := (List.getElem?_eq_some_iff.1 hu).1; rwa [lst_len] at this
  rw [hE (by omega), Addr.add_lit, irow_cell h.arr (s + j) (by omega)]
  rw [lst_at _ _ _ hj] at hu
  rw [← hu]
  have e : arrF f g n s m (s + j) = g j := by
    unfold arrF
    rw [if_neg (by omega), if_pos (by omega), show s + j - s = j by omega]
  rw [e]

/-- The turned bytes, and extra's behind them. -/
def nbAll (f g : Nat → Int) (n j : Nat) : Int := if j < n then 255 - f j else g (j - n)

/-- What the append has left: a slice of the call's own that holds both. -/
theorem own_shape {w' : World} {base n m : Nat} {f g : Nat → Int} {v' : Value} (h : w'.ownsRow base 5 1 v' (n + m) (lst n (fun j => 255 - f j) ++ lst m g)) (hne : ¬ v' = .slice none 0 0) :
    ∃ H cap, v' = .slice (some ⟨H, 0, none⟩) (n + m) cap ∧ H < w'.heap.size ∧ ∀ j, j < n + m → w'.cell? ⟨H, j, none⟩ = some (.int .u8 (nbAll f g n j)) := by
  rcases h.2 with ⟨hv, _⟩ | ⟨H, cap, cur, hv, _, hr, _, _, _, ht⟩
  · exact absurd hv hne
  · refine ⟨H, cap, hv, (Array.getElem?_eq_some_iff.1 hr).1, fun j hj => ?_⟩
    rw [cell_of_row w' H j cur 5 (0, 0) hr]
    have e : cur[j]? = (cur.toList.take ((n + m) * 1))[j]? := by
      rw [Nat.mul_one, List.getElem?_take_of_lt hj, Array.getElem?_toList]
    rw [e, ht, List.getElem?_append, lst_len]
    unfold nbAll
    by_cases h1 : j < n
    · rw [if_pos h1, if_pos h1, lst_at _ _ _ h1]
    · rw [if_neg h1, if_neg h1, lst_at _ _ _ (by omega)]

end Go.Proofs.Qxb6600746aMods
