import Derived.Test.Qxb6600642aModsSmall
namespace Go.Proofs.Qxb6600642aMods
open Go.RowKit

/-- The six kinds of value, by number: string, bool, array, object, null, number. -/
def kS : Nat → ByteArray
  | 0 => ⟨#[115, 116, 114, 105, 110, 103]⟩
  | 1 => ⟨#[98, 111, 111, 108]⟩
  | 2 => ⟨#[97, 114, 114, 97, 121]⟩
  | 3 => ⟨#[111, 98, 106, 101, 99, 116]⟩
  | 4 => ⟨#[110, 117, 108, 108]⟩
  | _ => ⟨#[110, 117, 109, 98, 101, 114]⟩
/-- .. and how the messages name them. -/
def wS : Nat → ByteArray
  | 0 => ⟨#[97, 32, 115, 116, 114, 105, 110, 103]⟩
  | 1 => ⟨#[97, 32, 98, 111, 111, 108, 101, 97, 110]⟩
  | 2 => ⟨#[97, 32, 108, 105, 115, 116]⟩
  | 3 => ⟨#[97, 32, 109, 97, 112, 112, 105, 110, 103]⟩
  | 4 => ⟨#[110, 117, 108, 108]⟩
  | _ => ⟨#[97, 32, 110, 117, 109, 98, 101, 114]⟩

/-- THE PLAIN LAW: the words tell the kinds apart. -/
theorem apart : ∀ i, i < 6 → ∀ j, j < 6 → ((kS i).toList == (kS j).toList) = ((wS i).toList == (wS j).toList) := by decide +kernel

theorem ret_str {i : Nat} (h : i < 6) {s : ByteArray} (e : s = kS i) (w : World) : ∃ i, i < 6 ∧ Ending.returned (.string s) = .returned (.string (kS i)) ∧ w = w := ⟨i, h, by rw [e], rfl⟩

set_option maxHeartbeats 400000 in
/-- 'kindOf': one of the six. -/
theorem kindOf_any (g len cap : Nat) (x : Int) (w : World) (hl : 0 < len) (hc : w.cell? ⟨g, 0, none⟩ = some (.int .u8 x)) :
    Calls Trym.prog 12 #[.slice (some ⟨g, 0, none⟩) len cap] w fun e w' => ∃ i, i < 6 ∧ e = .returned (.string (kS i)) ∧ w' = w := by
  go_enter Trym.func12, Trym.ntmps12
  go_wp2
  all_goals
    go_ret
    first
      | exact ret_str (i := 0) (by omega) rfl _
      | exact ret_str (i := 1) (by omega) rfl _
      | exact ret_str (i := 2) (by omega) rfl _
      | exact ret_str (i := 3) (by omega) rfl _
      | exact ret_str (i := 4) (by omega) rfl _
      | exact ret_str (i := 5) (by omega) rfl _

set_option maxHeartbeats 400000 in
/-- 'ZZKindOf' hands it on. -/
theorem zzkind_any (a : Option Addr) (len cap : Nat) (bt : Nat → Int) (w : World) (hl : 0 < len) (hr : Rd w a len bt) :
    Calls Trym.prog 8 #[.slice a len cap] w fun e w' => ∃ i, i < 6 ∧ e = .returned (.string (kS i)) ∧ w' = w := by
  obtain ⟨g, rfl, _, hc⟩ := hr.cells hl
  have HC := hide (kindOf_any g len cap (bt 0) w hl (hc 0 hl))
  clear hc hr
  go_enter Trym.func8, Trym.ntmps8
  go_wp2_with fail
  refine HC.out.mono ?_
  rintro e w' ⟨i, hi, rfl, hw⟩
  rw [hw]
  clear hw HC
  go_wp2
  go_ret
  exact ⟨i, hi, rfl, rfl⟩

set_option maxHeartbeats 400000 in
/-- 'words' of each of the six. -/
theorem words_any (i : Nat) (hi : i < 6) (w : World) : Calls Trym.prog 13 #[.string (kS i)] w fun e w' => e = .returned (.string (wS i)) ∧ w' = w := by
  match i, hi with
  | 0, _ => unfold kS wS; go_enter Trym.func13, Trym.ntmps13; go_wp2; go_ret; exact ⟨rfl, rfl⟩
  | 1, _ => unfold kS wS; go_enter Trym.func13, Trym.ntmps13; go_wp2; go_ret; exact ⟨rfl, rfl⟩
  | 2, _ => unfold kS wS; go_enter Trym.func13, Trym.ntmps13; go_wp2; go_ret; exact ⟨rfl, rfl⟩
  | 3, _ => unfold kS wS; go_enter Trym.func13, Trym.ntmps13; go_wp2; go_ret; exact ⟨rfl, rfl⟩
  | 4, _ => unfold kS wS; go_enter Trym.func13, Trym.ntmps13; go_wp2; go_ret; exact ⟨rfl, rfl⟩
  | 5, _ => unfold kS wS; go_enter Trym.func13, Trym.ntmps13; go_wp2; go_ret; exact ⟨rfl, rfl⟩

set_option maxHeartbeats 400000 in
/-- 'ZZWords' hands them on. -/
theorem zzwords_any (i : Nat) (hi : i < 6) (w : World) : Calls Trym.prog 10 #[.string (kS i)] w fun e w' => e = .returned (.string (wS i)) ∧ w' = w := by
  have HC := hide (words_any i hi w)
  go_enter Trym.func10, Trym.ntmps10
  go_wp2_with fail
  refine HC.out.mono ?_
  rintro e w' ⟨rfl, hw⟩
  rw [hw]
  clear hw HC
  go_wp2
  go_ret
  exact ⟨rfl, rfl⟩

set_option maxHeartbeats 400000 in
theorem bytes_any (a b : Option Addr) (la ca lb cb : Nat) (w : World) (ha : la ≤ maxLen) (hb : lb ≤ maxLen) :
    Calls Trym.prog 11 #[.slice a la ca, .slice b lb cb] w fun e w' => e = .returned (.bool (decide (la + lb ≤ 1048576))) ∧ w' = w := by
  unfold maxLen at ha hb
  by_cases h : la + lb ≤ 1048576
  · rw [decide_eq_true h]
    go_enter Trym.func11, Trym.ntmps11
    go_wp2
    go_ret
    exact ⟨rfl, rfl⟩
  · rw [decide_eq_false h]
    by_cases h1 : la ≤ 1048576
    · by_cases h2 : lb ≤ 1048576
      · go_enter Trym.func11, Trym.ntmps11
        go_wp2
        go_ret
        exact ⟨rfl, rfl⟩
      · go_enter Trym.func11, Trym.ntmps11
        go_wp2
        go_ret
        exact ⟨rfl, rfl⟩
    · go_enter Trym.func11, Trym.ntmps11
      go_wp2
      go_ret
      exact ⟨rfl, rfl⟩

end Go.Proofs.Qxb6600642aMods
