/-
  THE PLAIN LAW: the digits of a little-endian number in balanced radix 32, and the sum of the digits laid into bytes. No Go in sight.
-/
namespace Go.Proofs.Qxb6600581aMods.Plain

/-- The five bits of digit i out of the bytes. -/
def raw (bt : Nat → Int) (i : Nat) : Int := (bt (5 * i / 8) + 256 * bt (5 * i / 8 + 1)) / 2 ^ (5 * i % 8) % 32
/-- The carry that comes into digit i. -/
def cy (bt : Nat → Int) : Nat → Int
  | 0 => 0
  | i + 1 => if 16 < raw bt i + cy bt i then 1 else 0
/-- Digit i. -/
def dg (bt : Nat → Int) (i : Nat) : Int := raw bt i + cy bt i - 32 * cy bt (i + 1)

/-- The byte cells behind k digits. -/
def acc (d : Nat → Int) : Nat → Nat → Int
  | 0, _ => 0
  | k + 1, j => acc d k j + if j = 5 * k / 8 then d k * 2 ^ (5 * k % 8) else 0
/-- The carry that comes into byte cell j. -/
def car (a : Nat → Int) : Nat → Int
  | 0 => 0
  | j + 1 => (a j + car a j) / 256
def out (a : Nat → Int) (j : Nat) : Int := (a j + car a j) % 256

theorem raw_bd (bt : Nat → Int) (i : Nat) : 0 ≤ raw bt i ∧ raw bt i ≤ 31 := by unfold raw; omega
theorem cy_bd (bt : Nat → Int) (i : Nat) : 0 ≤ cy bt i ∧ cy bt i ≤ 1 := by
  cases i with
  | zero => simp [cy]
  | succ i => unfold cy; split <;> omega
theorem dg_bd (bt : Nat → Int) (i : Nat) : -15 ≤ dg bt i ∧ dg bt i ≤ 16 := by
  have h1 := raw_bd bt i
  have h2 := cy_bd bt i
  unfold dg
  rw [cy]
  split <;> omega

theorem pow_cases (k : Nat) : ∃ p : Int, (2 : Int) ^ (5 * k % 8) = p ∧ 1 ≤ p ∧ p ≤ 128 := by
  have h : 5 * k % 8 < 8 := Nat.mod_lt _ (by omega)
  generalize 5 * k % 8 = r at h
  match r, h with
  | 0, _ => exact ⟨1, by decide, by decide, by decide⟩
  | 1, _ => exact ⟨2, by decide, by decide, by decide⟩
  | 2, _ => exact ⟨4, by decide, by decide, by decide⟩
  | 3, _ => exact ⟨8, by decide, by decide, by decide⟩
  | 4, _ => exact ⟨16, by decide, by decide, by decide⟩
  | 5, _ => exact ⟨32, by decide, by decide, by decide⟩
  | 6, _ => exact ⟨64, by decide, by decide, by decide⟩
  | 7, _ => exact ⟨128, by decide, by decide, by decide⟩

theorem mul_bd (x p : Int) (h1 : -128 ≤ x) (h2 : x ≤ 127) (h3 : 1 ≤ p) (h4 : p ≤ 128) : -16384 ≤ x * p ∧ x * p ≤ 16384 := by
  have a1 : 0 ≤ (x + 128) * p := Int.mul_nonneg (by omega) (by omega)
  have a2 : 0 ≤ (128 - x) * p := Int.mul_nonneg (by omega) (by omega)
  rw [Int.add_mul] at a1
  rw [Int.sub_mul] at a2
  omega

theorem term_bd (d : Nat → Int) (hd : ∀ i, -128 ≤ d i ∧ d i ≤ 127) (k : Nat) : -16384 ≤ d k * 2 ^ (5 * k % 8) ∧ d k * 2 ^ (5 * k % 8) ≤ 16384 := by
  obtain ⟨p, hp, h1, h2⟩ := pow_cases k
  rw [hp]
  exact mul_bd _ _ (hd k).1 (hd k).2 h1 h2

theorem acc_bd (d : Nat → Int) (hd : ∀ i, -128 ≤ d i ∧ d i ≤ 127) (k j : Nat) : -(16384 * (k : Int)) ≤ acc d k j ∧ acc d k j ≤ 16384 * (k : Int) := by
  induction k with
  | zero => simp [acc]
  | succ k ih =>
    have := term_bd d hd k
    rw [acc]
    split <;> omega

theorem car_bd (a : Nat → Int) (ha : ∀ j, -1000000 ≤ a j ∧ a j ≤ 1000000) (j : Nat) : -5000 ≤ car a j ∧ car a j ≤ 5000 := by
  induction j with
  | zero => simp [car]
  | succ j ih => have := ha j; rw [car]; omega

/-- The byte cell j out of the one or two digits that begin in it. -/
theorem acc_eq (d : Nat → Int) (k j : Nat) : acc d k j =
    (if (8 * j + 4) / 5 < k then d ((8 * j + 4) / 5) * 2 ^ (5 * ((8 * j + 4) / 5) - 8 * j) else 0) +
    (if (8 * j + 4) / 5 + 1 < k ∧ 5 * ((8 * j + 4) / 5 + 1) < 8 * j + 8 then d ((8 * j + 4) / 5 + 1) * 2 ^ (5 * ((8 * j + 4) / 5 + 1) - 8 * j) else 0) := by
  induction k with
  | zero => simp [acc]
  | succ k ih =>
    rw [acc, ih]
    by_cases h : j = 5 * k / 8
    · rw [if_pos h]
      by_cases h0 : k = (8 * j + 4) / 5
      · have e : 5 * k % 8 = 5 * k - 8 * j := by omega
        rw [e, ← h0, if_neg (by omega), if_neg (by omega), if_pos (by omega), if_neg (by omega)]
        omega
      · have h1 : k = (8 * j + 4) / 5 + 1 := by omega
        have e : 5 * k % 8 = 5 * k - 8 * j := by omega
        rw [e, ← h1, if_pos (by omega), if_neg (by omega), if_pos (by omega), if_pos (by omega)]
        omega
    · rw [if_neg h]
      have q1 : ((8 * j + 4) / 5 < k) = ((8 * j + 4) / 5 < k + 1) := by apply propext; constructor <;> intro _ <;> omega
      have q2 : ((8 * j + 4) / 5 + 1 < k ∧ 5 * ((8 * j + 4) / 5 + 1) < 8 * j + 8) = ((8 * j + 4) / 5 + 1 < k + 1 ∧ 5 * ((8 * j + 4) / 5 + 1) < 8 * j + 8) := by
        apply propext; constructor <;> intro _ <;> omega
      simp only [q1, q2]
      omega

theorem raw0 (bt : Nat → Int) (m : Nat) : raw bt (8 * m) = (bt (5 * m) + 256 * bt (5 * m + 1)) % 32 := by
  unfold raw; rw [show 5 * (8 * m) / 8 = 5 * m by omega, show 5 * (8 * m) % 8 = 0 by omega]; simp
theorem raw1 (bt : Nat → Int) (m : Nat) : raw bt (8 * m + 1) = (bt (5 * m) + 256 * bt (5 * m + 1)) / 32 % 32 := by
  unfold raw; rw [show 5 * (8 * m + 1) / 8 = 5 * m by omega, show 5 * (8 * m + 1) % 8 = 5 by omega]; rfl
theorem raw2 (bt : Nat → Int) (m : Nat) : raw bt (8 * m + 2) = (bt (5 * m + 1) + 256 * bt (5 * m + 2)) / 4 % 32 := by
  unfold raw; rw [show 5 * (8 * m + 2) / 8 = 5 * m + 1 by omega, show 5 * (8 * m + 2) % 8 = 2 by omega]; rfl
theorem raw3 (bt : Nat → Int) (m : Nat) : raw bt (8 * m + 3) = (bt (5 * m + 1) + 256 * bt (5 * m + 2)) / 128 % 32 := by
  unfold raw; rw [show 5 * (8 * m + 3) / 8 = 5 * m + 1 by omega, show 5 * (8 * m + 3) % 8 = 7 by omega]; rfl
theorem raw4 (bt : Nat → Int) (m : Nat) : raw bt (8 * m + 4) = (bt (5 * m + 2) + 256 * bt (5 * m + 3)) / 16 % 32 := by
  unfold raw; rw [show 5 * (8 * m + 4) / 8 = 5 * m + 2 by omega, show 5 * (8 * m + 4) % 8 = 4 by omega]; rfl
theorem raw5 (bt : Nat → Int) (m : Nat) : raw bt (8 * m + 5) = (bt (5 * m + 3) + 256 * bt (5 * m + 4)) / 2 % 32 := by
  unfold raw; rw [show 5 * (8 * m + 5) / 8 = 5 * m + 3 by omega, show 5 * (8 * m + 5) % 8 = 1 by omega]; rfl
theorem raw6 (bt : Nat → Int) (m : Nat) : raw bt (8 * m + 6) = (bt (5 * m + 3) + 256 * bt (5 * m + 4)) / 64 % 32 := by
  unfold raw; rw [show 5 * (8 * m + 6) / 8 = 5 * m + 3 by omega, show 5 * (8 * m + 6) % 8 = 6 by omega]; rfl
theorem raw7 (bt : Nat → Int) (m : Nat) : raw bt (8 * m + 7) = (bt (5 * m + 4) + 256 * bt (5 * m + 5)) / 8 % 32 := by
  unfold raw; rw [show 5 * (8 * m + 7) / 8 = 5 * m + 4 by omega, show 5 * (8 * m + 7) % 8 = 3 by omega]; rfl

theorem acc_s0 (d : Nat → Int) (m : Nat) (h : 8 * m + 1 < 52) : acc d 52 (5 * m) = d (8 * m) + d (8 * m + 1) * 32 := by
  rw [acc_eq, show (8 * (5 * m) + 4) / 5 = 8 * m by omega, if_pos (by omega), if_pos (by omega), show 5 * (8 * m) - 8 * (5 * m) = 0 by omega, show 5 * (8 * m + 1) - 8 * (5 * m) = 5 by omega]
  show d (8 * m) * 1 + d (8 * m + 1) * 32 = _
  omega
theorem acc_s1 (d : Nat → Int) (m : Nat) (h : 8 * m + 3 < 52) : acc d 52 (5 * m + 1) = d (8 * m + 2) * 4 + d (8 * m + 3) * 128 := by
  rw [acc_eq, show (8 * (5 * m + 1) + 4) / 5 = 8 * m + 2 by omega, if_pos (by omega), if_pos (by omega), show 5 * (8 * m + 2) - 8 * (5 * m + 1) = 2 by omega, show 5 * (8 * m + 2 + 1) - 8 * (5 * m + 1) = 7 by omega]
  rfl
theorem acc_s2 (d : Nat → Int) (m : Nat) (h : 8 * m + 4 < 52) : acc d 52 (5 * m + 2) = d (8 * m + 4) * 16 := by
  rw [acc_eq, show (8 * (5 * m + 2) + 4) / 5 = 8 * m + 4 by omega, if_pos (by omega), if_neg (by omega), show 5 * (8 * m + 4) - 8 * (5 * m + 2) = 4 by omega]
  show d (8 * m + 4) * 16 + 0 = _
  omega
theorem acc_s3 (d : Nat → Int) (m : Nat) (h : 8 * m + 6 < 52) : acc d 52 (5 * m + 3) = d (8 * m + 5) * 2 + d (8 * m + 6) * 64 := by
  rw [acc_eq, show (8 * (5 * m + 3) + 4) / 5 = 8 * m + 5 by omega, if_pos (by omega), if_pos (by omega), show 5 * (8 * m + 5) - 8 * (5 * m + 3) = 1 by omega, show 5 * (8 * m + 5 + 1) - 8 * (5 * m + 3) = 6 by omega]
  rfl
theorem acc_s4 (d : Nat → Int) (m : Nat) (h : 8 * m + 7 < 52) : acc d 52 (5 * m + 4) = d (8 * m + 7) * 8 := by
  rw [acc_eq, show (8 * (5 * m + 4) + 4) / 5 = 8 * m + 7 by omega, if_pos (by omega), if_neg (by omega), show 5 * (8 * m + 7) - 8 * (5 * m + 4) = 3 by omega]
  show d (8 * m + 7) * 8 + 0 = _
  omega
theorem acc_hi (d : Nat → Int) (j : Nat) (h : 32 ≤ j) : acc d 52 j = 0 := by
  rw [acc_eq, if_neg (by omega), if_neg (by omega)]; rfl

/-- Five bytes, one after another: what the carry into each byte cell is, and that the cell comes out as the byte. 'ac' : the cells of the digits. -/
theorem five (bt : Nat → Int) (hb : ∀ j, 0 ≤ bt j ∧ bt j ≤ 255) (m : Nat) (hm : 5 * m < 32) (h0 : car (acc (dg bt) 52) (5 * m) = - cy bt (8 * m)) :
    out (acc (dg bt) 52) (5 * m) = bt (5 * m) ∧ car (acc (dg bt) 52) (5 * m + 1) = bt (5 * m + 1) % 4 - 4 * cy bt (8 * m + 2) ∧
    (5 * m + 1 < 32 → out (acc (dg bt) 52) (5 * m + 1) = bt (5 * m + 1) ∧ car (acc (dg bt) 52) (5 * m + 2) = bt (5 * m + 2) % 16 - 16 * cy bt (8 * m + 4)) ∧
    (5 * m + 2 < 32 → out (acc (dg bt) 52) (5 * m + 2) = bt (5 * m + 2) ∧ car (acc (dg bt) 52) (5 * m + 3) = bt (5 * m + 3) % 2 - 2 * cy bt (8 * m + 5)) ∧
    (5 * m + 3 < 32 → out (acc (dg bt) 52) (5 * m + 3) = bt (5 * m + 3) ∧ car (acc (dg bt) 52) (5 * m + 4) = bt (5 * m + 4) % 8 - 8 * cy bt (8 * m + 7)) ∧
    (5 * m + 4 < 32 → out (acc (dg bt) 52) (5 * m + 4) = bt (5 * m + 4) ∧ car (acc (dg bt) 52) (5 * m + 5) = - cy bt (8 * m + 8)) := by
  have b0 := hb (5 * m)
  have b1 := hb (5 * m + 1)
  have b2 := hb (5 * m + 2)
  have b3 := hb (5 * m + 3)
  have b4 := hb (5 * m + 4)
  have b5 := hb (5 * m + 5)
  have e0 : dg bt (8 * m) = raw bt (8 * m) + cy bt (8 * m) - 32 * cy bt (8 * m + 1) := rfl
  have e1 : dg bt (8 * m + 1) = raw bt (8 * m + 1) + cy bt (8 * m + 1) - 32 * cy bt (8 * m + 2) := rfl
  have e2 : dg bt (8 * m + 2) = raw bt (8 * m + 2) + cy bt (8 * m + 2) - 32 * cy bt (8 * m + 3) := rfl
  have e3 : dg bt (8 * m + 3) = raw bt (8 * m + 3) + cy bt (8 * m + 3) - 32 * cy bt (8 * m + 4) := rfl
  have e4 : dg bt (8 * m + 4) = raw bt (8 * m + 4) + cy bt (8 * m + 4) - 32 * cy bt (8 * m + 5) := rfl
  have e5 : dg bt (8 * m + 5) = raw bt (8 * m + 5) + cy bt (8 * m + 5) - 32 * cy bt (8 * m + 6) := rfl
  have e6 : dg bt (8 * m + 6) = raw bt (8 * m + 6) + cy bt (8 * m + 6) - 32 * cy bt (8 * m + 7) := rfl
  have e7 : dg bt (8 * m + 7) = raw bt (8 * m + 7) + cy bt (8 * m + 7) - 32 * cy bt (8 * m + 8) := rfl
  rw [raw0] at e0
  rw [raw1] at e1
  rw [raw2] at e2
  rw [raw3] at e3
  rw [raw4] at e4
  rw [raw5] at e5
  rw [raw6] at e6
  rw [raw7] at e7
  have a0 := acc_s0 (dg bt) m (by omega)
  have c1 : car (acc (dg bt) 52) (5 * m + 1) = bt (5 * m + 1) % 4 - 4 * cy bt (8 * m + 2) := by
    rw [car, h0, a0, e0, e1]; clear e2 e3 e4 e5 e6 e7; omega
  have o0 : out (acc (dg bt) 52) (5 * m) = bt (5 * m) := by
    unfold out; rw [h0, a0, e0, e1]; clear e2 e3 e4 e5 e6 e7; omega
  refine ⟨o0, c1, ?_⟩
  have c2 : 5 * m + 1 < 32 → out (acc (dg bt) 52) (5 * m + 1) = bt (5 * m + 1) ∧ car (acc (dg bt) 52) (5 * m + 2) = bt (5 * m + 2) % 16 - 16 * cy bt (8 * m + 4) := by
    intro h
    have a := acc_s1 (dg bt) m (by omega)
    rw [car]; unfold out; rw [c1, a, e2, e3]
    clear e0 e1 e4 e5 e6 e7 a0
    omega
  have c3 : 5 * m + 2 < 32 → out (acc (dg bt) 52) (5 * m + 2) = bt (5 * m + 2) ∧ car (acc (dg bt) 52) (5 * m + 3) = bt (5 * m + 3) % 2 - 2 * cy bt (8 * m + 5) := by
    intro h
    have a := acc_s2 (dg bt) m (by omega)
    rw [car]; unfold out; rw [(c2 (by omega)).2, a, e4]
    clear e0 e1 e2 e3 e5 e6 e7 a0
    omega
  have c4 : 5 * m + 3 < 32 → out (acc (dg bt) 52) (5 * m + 3) = bt (5 * m + 3) ∧ car (acc (dg bt) 52) (5 * m + 4) = bt (5 * m + 4) % 8 - 8 * cy bt (8 * m + 7) := by
    intro h
    have a := acc_s3 (dg bt) m (by omega)
    rw [car]; unfold out; rw [(c3 (by omega)).2, a, e5, e6]
    clear e0 e1 e2 e3 e4 e7 a0
    omega
  refine ⟨c2, c3, c4, ?_⟩
  intro h
  have a := acc_s4 (dg bt) m (by omega)
  rw [car]; unfold out; rw [(c4 (by omega)).2, a, e7]
  clear e0 e1 e2 e3 e4 e5 e6 a0
  omega

theorem at5 (bt : Nat → Int) (hb : ∀ j, 0 ≤ bt j ∧ bt j ≤ 255) (m : Nat) (hm : 5 * m < 35) : car (acc (dg bt) 52) (5 * m) = - cy bt (8 * m) := by
  induction m with
  | zero => rfl
  | succ m ih => exact ((five bt hb m (by omega) (ih (by omega))).2.2.2.2.2 (by omega)).2

/-- THE DIGITS' SUM COMES OUT AS THE BYTES. -/
theorem out_eq (bt : Nat → Int) (hb : ∀ j, 0 ≤ bt j ∧ bt j ≤ 255) (j : Nat) (hj : j < 32) : out (acc (dg bt) 52) j = bt j := by
  obtain ⟨m, s, rfl, hs⟩ : ∃ m s, j = 5 * m + s ∧ s < 5 := ⟨j / 5, j % 5, by omega, by omega⟩
  have F := five bt hb m (by omega) (at5 bt hb m (by omega))
  match s, hs with
  | 0, _ => exact F.1
  | 1, _ => exact (F.2.2.1 hj).1
  | 2, _ => exact (F.2.2.2.1 hj).1
  | 3, _ => exact (F.2.2.2.2.1 hj).1
  | 4, _ => exact (F.2.2.2.2.2 hj).1

theorem car32 (bt : Nat → Int) (hb : ∀ j, 0 ≤ bt j ∧ bt j ≤ 255) : car (acc (dg bt) 52) 32 = bt 32 % 16 - 16 * cy bt 52 := by
  have F := five bt hb 6 (by omega) (at5 bt hb 6 (by omega))
  exact (F.2.2.1 (by omega)).2

/-- The low nibble of byte 32. -/
theorem out32 (bt : Nat → Int) (hb : ∀ j, 0 ≤ bt j ∧ bt j ≤ 255) : out (acc (dg bt) 52) 32 % 16 = bt 32 % 16 := by
  have h := car32 bt hb
  have c := cy_bd bt 52
  unfold out
  rw [h, acc_hi _ _ (by omega)]
  omega

theorem out_bd (a : Nat → Int) (j : Nat) : 0 ≤ out a j ∧ out a j ≤ 255 := by unfold out; omega

/-- Where the bytes from 32 on are zero nothing is lost above. -/
theorem top (bt : Nat → Int) (hb : ∀ j, 0 ≤ bt j ∧ bt j ≤ 255) (hz : bt 32 = 0) :
    out (acc (dg bt) 52) 32 = 0 ∧ out (acc (dg bt) 52) 33 = 0 ∧ car (acc (dg bt) 52) 34 = 0 ∧ 0 ≤ dg bt 51 ∧ dg bt 51 ≤ 2 := by
  have h := car32 bt hb
  have b := hb 31
  have c := cy_bd bt 51
  have r : raw bt 51 = (bt 31 + 256 * bt 32) / 128 % 32 := raw3 bt 6
  have c52 : cy bt 52 = 0 := by
    show (if 16 < raw bt 51 + cy bt 51 then (1 : Int) else 0) = 0
    rw [if_neg (by omega)]
  have h2 : car (acc (dg bt) 52) 33 = 0 := by
    show (acc (dg bt) 52 32 + car (acc (dg bt) 52) 32) / 256 = 0
    rw [h, acc_hi _ _ (by omega)]; omega
  refine ⟨?_, ?_, ?_, ?_⟩
  · unfold out; rw [h, acc_hi _ _ (by omega)]; omega
  · unfold out; rw [h2, acc_hi _ _ (by omega)]; rfl
  · show (acc (dg bt) 52 33 + car (acc (dg bt) 52) 33) / 256 = 0
    rw [h2, acc_hi _ _ (by omega)]; rfl
  · have e : dg bt 51 = raw bt 51 + cy bt 51 - 32 * cy bt 52 := rfl
    rw [e]; omega

end Go.Proofs.Qxb6600581aMods.Plain
