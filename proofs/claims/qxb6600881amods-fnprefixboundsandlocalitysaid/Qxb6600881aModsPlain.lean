/-
  THE PLAIN LAW: where the runes of a byte string begin, and that the first ten of them hang on the first forty bytes alone. No Go in sight but the decoder of one rune.
-/
import GoSem.Core.Utf8
namespace Go.Proofs.Qxb6600881aMods.Plain

/-- The width of the rune at position i. -/
def wd (s : ByteArray) (i : Nat) : Nat := (Utf8.decode s i).2

/-- .. out of its bytes and of whether there are bytes behind it. -/
def W (b0 b1 b2 b3 : Nat) (k1 k2 k3 : Bool) : Nat :=
  if b0 < 0x80 then 1
  else if b0 / 32 == 6 && (k1 && b1 / 64 == 2) then (if (b0 % 32) * 64 + b1 % 64 ≥ 0x80 then 2 else 1)
  else if b0 / 16 == 14 && (k1 && b1 / 64 == 2) && (k2 && b2 / 64 == 2) then (if (b0 % 16) * 4096 + (b1 % 64) * 64 + b2 % 64 ≥ 0x800 && Utf8.valid (((b0 % 16) * 4096 + (b1 % 64) * 64 + b2 % 64 : Nat) : Int) then 3 else 1)
  else if b0 / 8 == 30 && (k1 && b1 / 64 == 2) && (k2 && b2 / 64 == 2) && (k3 && b3 / 64 == 2) then (if (b0 % 8) * 262144 + (b1 % 64) * 4096 + (b2 % 64) * 64 + b3 % 64 ≥ 0x10000 && Utf8.valid (((b0 % 8) * 262144 + (b1 % 64) * 4096 + (b2 % 64) * 64 + b3 % 64 : Nat) : Int) then 4 else 1)
  else 1

theorem wd_eq (s : ByteArray) (i : Nat) : wd s i = W (s.get! i).toNat (s.get! (i + 1)).toNat (s.get! (i + 2)).toNat (s.get! (i + 3)).toNat (decide (i + 1 < s.size)) (decide (i + 2 < s.size)) (decide (i + 3 < s.size)) := by
  unfold wd W Utf8.decode
  simp only [Nat.add_zero]
  repeat' split
  all_goals rfl

theorem W_bd (b0 b1 b2 b3 : Nat) (k1 k2 k3 : Bool) : 1 ≤ W b0 b1 b2 b3 k1 k2 k3 ∧ W b0 b1 b2 b3 k1 k2 k3 ≤ 4 := by
  unfold W
  repeat' split
  all_goals omega

/-- A rune of two, three, four bytes has its bytes. -/
theorem W_fits (b0 b1 b2 b3 : Nat) (k1 k2 k3 : Bool) : (1 < W b0 b1 b2 b3 k1 k2 k3 → k1 = true) ∧ (2 < W b0 b1 b2 b3 k1 k2 k3 → k2 = true) ∧ (3 < W b0 b1 b2 b3 k1 k2 k3 → k3 = true) := by
  cases k1 <;> cases k2 <;> cases k3 <;> simp [W] <;> (repeat' split) <;> simp_all

/-- Cut behind the rune: the same width. -/
theorem W_cut (b0 b1 b2 b3 c1 c2 c3 : Nat) (k1 k2 k3 l1 l2 l3 : Bool) (h21 : l2 = true → l1 = true) (h32 : l3 = true → l2 = true) (e1 : l1 = true → c1 = b1 ∧ k1 = true) (e2 : l2 = true → c2 = b2 ∧ k2 = true) (e3 : l3 = true → c3 = b3 ∧ k3 = true)
    (g1 : l1 = false → W b0 b1 b2 b3 k1 k2 k3 ≤ 1) (g2 : l2 = false → W b0 b1 b2 b3 k1 k2 k3 ≤ 2) (g3 : l3 = false → W b0 b1 b2 b3 k1 k2 k3 ≤ 3) :
    W b0 c1 c2 c3 l1 l2 l3 = W b0 b1 b2 b3 k1 k2 k3 := by
  have bd := W_bd b0 b1 b2 b3 k1 k2 k3
  cases l1 with
  | false =>
    have := g1 rfl
    have hl2 : l2 = false := by cases l2 <;> simp_all
    have hl3 : l3 = false := by cases l3 <;> simp_all
    subst hl2 hl3
    have e : W b0 c1 c2 c3 false false false = 1 := by simp [W]
    omega
  | true =>
    obtain ⟨rfl, rfl⟩ := e1 rfl
    cases l2 with
    | false =>
      have h := g2 rfl
      have hl3 : l3 = false := by cases l3 <;> simp_all
      subst hl3
      by_cases p : b0 < 0x80
      · simp only [W, if_pos p]
      · by_cases A : (b0 / 32 == 6 && (true && c1 / 64 == 2)) = true
        · simp only [W, if_neg p, if_pos A]
        · have L : W b0 c1 c2 c3 true false false = 1 := by simp only [W, if_neg p, if_neg A]; simp
          have R : W b0 c1 b2 b3 true k2 k3 = 1 ∨ W b0 c1 b2 b3 true k2 k3 = 3 ∨ W b0 c1 b2 b3 true k2 k3 = 4 := by
            simp only [W, if_neg p, if_neg A]
            repeat' split
            all_goals simp
          omega
    | true =>
      obtain ⟨rfl, rfl⟩ := e2 rfl
      cases l3 with
      | false =>
        have h := g3 rfl
        by_cases p : b0 < 0x80
        · simp only [W, if_pos p]
        · by_cases A : (b0 / 32 == 6 && (true && c1 / 64 == 2)) = true
          · simp only [W, if_neg p, if_pos A]
          · by_cases B : (b0 / 16 == 14 && (true && c1 / 64 == 2) && (true && c2 / 64 == 2)) = true
            · simp only [W, if_neg p, if_neg A, if_pos B]
            · have L : W b0 c1 c2 c3 true true false = 1 := by simp only [W, if_neg p, if_neg A, if_neg B]; simp
              have R : W b0 c1 c2 b3 true true k3 = 1 ∨ W b0 c1 c2 b3 true true k3 = 4 := by
                simp only [W, if_neg p, if_neg A, if_neg B]
                repeat' split
                all_goals simp
              omega
      | true =>
        obtain ⟨rfl, rfl⟩ := e3 rfl
        rfl

theorem wd_bd (s : ByteArray) (i : Nat) : 1 ≤ wd s i ∧ wd s i ≤ 4 := by rw [wd_eq]; exact W_bd _ _ _ _ _ _ _

/-- A rune ends within its string. -/
theorem wd_fits (s : ByteArray) (i : Nat) (h : i < s.size) : i + wd s i ≤ s.size := by
  have b := wd_bd s i
  rw [wd_eq] at b ⊢
  have f := W_fits (s.get! i).toNat (s.get! (i + 1)).toNat (s.get! (i + 2)).toNat (s.get! (i + 3)).toNat (decide (i + 1 < s.size)) (decide (i + 2 < s.size)) (decide (i + 3 < s.size))
  simp only [decide_eq_true_eq] at f
  omega

theorem get_in (t : ByteArray) (j : Nat) (h : j < t.size) : t.get! j = t[j]'h := by
  simp [ByteArray.get!, getElem!_pos, h]
  rfl
theorem get_cut (s : ByteArray) (K j : Nat) (hK : K ≤ s.size) (h : j < K) : (s.extract 0 K).get! j = s.get! j := by
  have h1 : j < (s.extract 0 K).size := by rw [ByteArray.size_extract]; omega
  have h2 : j < s.size := by omega
  rw [get_in _ j h1, get_in s j h2, ByteArray.getElem_extract]
  simp

/-- Cut behind the rune: the same rune's width. -/
theorem wd_cut (s : ByteArray) (K i : Nat) (hK : K ≤ s.size) (h : i + wd s i ≤ K) : wd (s.extract 0 K) i = wd s i := by
  have b := wd_bd s i
  have hs : (s.extract 0 K).size = K := by rw [ByteArray.size_extract]; omega
  rw [wd_eq s i] at h b ⊢
  rw [wd_eq, hs, get_cut s K i hK (by omega)]
  refine W_cut _ _ _ _ _ _ _ _ _ _ _ _ _ ?_ ?_ ?_ ?_ ?_ ?_ ?_ ?_
  · simp only [decide_eq_true_eq]; omega
  · simp only [decide_eq_true_eq]; omega
  · simp only [decide_eq_true_eq]; intro h'; exact ⟨by rw [get_cut s K _ hK h'], by omega⟩
  · simp only [decide_eq_true_eq]; intro h'; exact ⟨by rw [get_cut s K _ hK h'], by omega⟩
  · simp only [decide_eq_true_eq]; intro h'; exact ⟨by rw [get_cut s K _ hK h'], by omega⟩
  · simp only [decide_eq_false_iff_not]; omega
  · simp only [decide_eq_false_iff_not]; omega
  · simp only [decide_eq_false_iff_not]; omega

/-- Where rune j begins (at the string's end where there are not so many). -/
def pp (s : ByteArray) : Nat → Nat
  | 0 => 0
  | j + 1 => if pp s j < s.size then pp s j + wd s (pp s j) else pp s j

theorem pp_le (s : ByteArray) (j : Nat) : pp s j ≤ s.size := by
  induction j with
  | zero => exact Nat.zero_le _
  | succ j ih =>
    rw [pp]
    split
    · exact wd_fits s _ (by assumption)
    · exact ih
theorem pp_le4 (s : ByteArray) (j : Nat) : pp s j ≤ 4 * j := by
  induction j with
  | zero => simp [pp]
  | succ j ih =>
    have := wd_bd s (pp s j)
    rw [pp]
    split <;> omega
theorem pp_ge (s : ByteArray) (j : Nat) : j ≤ pp s j ∨ pp s j = s.size := by
  induction j with
  | zero => left; exact Nat.zero_le _
  | succ j ih =>
    have := wd_bd s (pp s j)
    have := pp_le s j
    rw [pp]
    split <;> omega
theorem pp_cut (s : ByteArray) (h : 40 < s.size) (j : Nat) (hj : j ≤ 10) : pp (s.extract 0 40) j = pp s j := by
  have hs : (s.extract 0 40).size = 40 := by rw [ByteArray.size_extract]; omega
  induction j with
  | zero => rfl
  | succ j ih =>
    have i1 := ih (by omega)
    have l := pp_le4 s j
    have b := wd_bd s (pp s j)
    rw [pp, pp, i1, hs, if_pos (by omega), if_pos (by omega), wd_cut s 40 (pp s j) (by omega) (by omega)]

/-- WHAT THE LAW ASKS OF THE FIRST TEN RUNES' END. -/
theorem ten (s : ByteArray) : pp s 10 ≤ s.size ∧ pp s 10 ≤ 40 ∧ (s.size ≤ 10 → pp s 10 = s.size) ∧ (pp s 10 ≠ s.size → 10 ≤ pp s 10) := by
  have h1 := pp_le s 10
  have h2 := pp_le4 s 10
  have h3 := pp_ge s 10
  omega

end Go.Proofs.Qxb6600881aMods.Plain
