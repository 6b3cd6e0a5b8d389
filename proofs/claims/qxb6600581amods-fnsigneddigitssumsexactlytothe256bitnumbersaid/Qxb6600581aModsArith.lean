/-
  The walk's spellings of the arithmetic in 'signedDigits' and 'sdValue', each turned into the plain law's words.
-/
import Derived.Test.Qxb6600581aModsPlain
import Derived.WalkKit
import Derived.Laws.BitsAllLaws
namespace Go.Proofs.Qxb6600581aMods
open Go.RowKit

theorem word_eq (x y : Int) (hx : 0 ≤ x ∧ x ≤ 255) (hy : 0 ≤ y ∧ y ≤ 255) : bits .or .u16 x (y * 256) = x + 256 * y := by
  rw [u16_or x (y * 256) hx.1 (by omega) (by omega) (by omega), Nat.or_comm, nat_join 8 (y * 256).toNat x.toNat (by omega) (by omega)]
  omega

theorem wraps_i64 (n : Int) (h₀ : 0 ≤ n) (h₁ : n < 2 ^ 16) : IntKind.i64.wrap n = n := IntWalk.i64_in n (by omega)
theorem and31 (n : Int) (h0 : 0 ≤ n) (h1 : n < 65536) : bits .and .i64 n 31 = n % 32 := bits_mask .i64 16 (by decide) wraps_i64 5 (by decide) n h0 h1
theorem and15 (n : Int) (h0 : 0 ≤ n) (h1 : n < 65536) : bits .and .i64 n 15 = n % 16 := bits_mask .i64 16 (by decide) wraps_i64 4 (by decide) n h0 h1

theorem div_small (x : Int) (r : Nat) (hx : 0 ≤ x ∧ x ≤ 65535) : 0 ≤ x / 2 ^ r ∧ x / 2 ^ r ≤ 65535 := by
  have hp : (0 : Int) ≤ 2 ^ r := Int.pow_nonneg (by omega)
  have h1 : 0 ≤ x / 2 ^ r := Int.ediv_nonneg hx.1 hp
  have h2 : x / 2 ^ r ≤ x := Int.ediv_le_self _ hx.1
  omega

theorem low_eq (x c : Int) (r : Nat) (hx : 0 ≤ x ∧ x ≤ 65535) (hc : 0 ≤ c ∧ c ≤ 1) : wrap64 (bits .and .i64 (wrap64 (x / 2 ^ r)) 31 + c) = x / 2 ^ r % 32 + c := by
  have h := div_small x r hx
  rw [IntWalk.wrap64_in (x / 2 ^ r) (by omega), and31 _ h.1 (by omega), IntWalk.wrap64_in _ (by omega)]

theorem both_eq (x y c : Int) (r : Nat) (hx : 0 ≤ x ∧ x ≤ 255) (hy : 0 ≤ y ∧ y ≤ 255) (hc : 0 ≤ c ∧ c ≤ 1) :
    wrap64 (bits .and .i64 (wrap64 (bits .or .u16 x (y * 256) / 2 ^ r)) 31 + c) = (x + 256 * y) / 2 ^ r % 32 + c := by
  rw [word_eq x y hx hy, low_eq _ c r (by omega) hc]

theorem close_hi {bt : Nat → Int} {k : Nat} {X : Int} (hX : X = Plain.raw bt k + Plain.cy bt k) (h : 16 < X) : IntKind.i8.wrap (wrap64 (X - 32)) = Plain.dg bt k ∧ (1 : Int) = Plain.cy bt (k + 1) := by
  have h1 : Plain.cy bt (k + 1) = 1 := by show (if 16 < Plain.raw bt k + Plain.cy bt k then (1 : Int) else 0) = 1; rw [if_pos (by omega)]
  have h2 : Plain.dg bt k = Plain.raw bt k + Plain.cy bt k - 32 * Plain.cy bt (k + 1) := rfl
  have h3 := Plain.raw_bd bt k
  have h4 := Plain.cy_bd bt k
  refine ⟨?_, h1.symm⟩
  rw [IntWalk.wrap64_in _ (by omega), IntWalk.i8_in _ (by omega), h2, h1]
  omega
theorem close_lo {bt : Nat → Int} {k : Nat} {X : Int} (hX : X = Plain.raw bt k + Plain.cy bt k) (h : X ≤ 16) : IntKind.i8.wrap X = Plain.dg bt k ∧ (0 : Int) = Plain.cy bt (k + 1) := by
  have h1 : Plain.cy bt (k + 1) = 0 := by show (if 16 < Plain.raw bt k + Plain.cy bt k then (1 : Int) else 0) = 0; rw [if_neg (by omega)]
  have h2 : Plain.dg bt k = Plain.raw bt k + Plain.cy bt k - 32 * Plain.cy bt (k + 1) := rfl
  have h3 := Plain.raw_bd bt k
  have h4 := Plain.cy_bd bt k
  refine ⟨?_, h1.symm⟩
  rw [IntWalk.i8_in _ (by omega), h2, h1]
  omega

theorem add_eq (A D : Int) (k : Nat) (hA : -900000 ≤ A ∧ A ≤ 900000) (hD : -128 ≤ D ∧ D ≤ 127) :
    wrap64 (A + wrap64 (D * wrap64 (2 ^ (5 * k % 8)))) = A + D * 2 ^ (5 * k % 8) := by
  obtain ⟨p, hp, h1, h2⟩ := Plain.pow_cases k
  have h := Plain.mul_bd D p hD.1 hD.2 h1 h2
  rw [hp, IntWalk.wrap64_in p (by omega), IntWalk.wrap64_in (D * p) (by omega), IntWalk.wrap64_in _ (by omega)]

theorem tmod_neg {v : Int} (h : v.tmod 256 < 0) : v.tmod 256 + 256 = v % 256 := by
  by_cases h0 : 0 ≤ v
  · rw [Int.tmod_eq_emod_of_nonneg h0] at h ⊢; omega
  · have e : v.tmod 256 = -((-v) % 256) := by
      rw [← Int.tmod_eq_emod_of_nonneg (by omega : 0 ≤ -v), Int.neg_tmod, Int.neg_neg]
    rw [e] at h ⊢; omega
theorem tmod_pos {v : Int} (h : 0 ≤ v.tmod 256) : v.tmod 256 = v % 256 := by
  by_cases h0 : 0 ≤ v
  · rw [Int.tmod_eq_emod_of_nonneg h0]
  · have e : v.tmod 256 = -((-v) % 256) := by
      rw [← Int.tmod_eq_emod_of_nonneg (by omega : 0 ≤ -v), Int.neg_tmod, Int.neg_neg]
    rw [e] at h ⊢; omega
theorem quo_eq (v : Int) : (v - v % 256).tdiv 256 = v / 256 := by
  have e : v - v % 256 = 256 * (v / 256) := by omega
  rw [e, Int.mul_tdiv_cancel_left _ (by omega)]

theorem m_neg {v : Int} (hv : -2000000 ≤ v ∧ v ≤ 2000000) (h : v.tmod 256 < 0) :
    wrap64 (v.tmod 256 + 256) = v % 256 ∧ wrap64 ((wrap64 (v - wrap64 (v.tmod 256 + 256))).tdiv 256) = v / 256 := by
  have e : wrap64 (v.tmod 256 + 256) = v % 256 := by rw [tmod_neg h, IntWalk.wrap64_in _ (by omega)]
  refine ⟨e, ?_⟩
  rw [e, IntWalk.wrap64_in (v - v % 256) (by omega), quo_eq, IntWalk.wrap64_in _ (by omega)]
theorem m_pos {v : Int} (hv : -2000000 ≤ v ∧ v ≤ 2000000) (h : 0 ≤ v.tmod 256) :
    v.tmod 256 = v % 256 ∧ wrap64 ((wrap64 (v - v.tmod 256)).tdiv 256) = v / 256 := by
  refine ⟨tmod_pos h, ?_⟩
  rw [tmod_pos h, IntWalk.wrap64_in (v - v % 256) (by omega), quo_eq, IntWalk.wrap64_in _ (by omega)]

end Go.Proofs.Qxb6600581aMods
