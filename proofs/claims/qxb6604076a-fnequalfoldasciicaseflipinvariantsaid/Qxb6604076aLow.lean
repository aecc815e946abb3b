/-
  THE CONTRACTS OF lowerASCII (16), ZZlowerASCII (12), isUpperB1 (15), isLetterB1 (14).
-/
import Derived.Test.Qxb6604076aRows
import Derived.WalkKit
import Derived.WalkSpells
import Derived.WalkLawsBesides
namespace Go.Proofs.Qxb6604076a
open Go.RowKit

/-- The plain function. -/
def lower (c : Int) : Int := if 65 ≤ c ∧ c ≤ 90 then c + 32 else c
theorem lower_yes {c : Int} (h : 65 ≤ c) (h' : c ≤ 90) : lower c = c + 32 := if_pos ⟨h, h'⟩
theorem lower_no {c : Int} (h : c < 65 ∨ 90 < c) : lower c = c := if_neg (by omega)
theorem lower_bounds {c : Int} (h : 0 ≤ c) (h' : c ≤ 255) : 0 ≤ lower c ∧ lower c ≤ 255 := by unfold lower; split <;> omega

theorem ret_int {k : IntKind} {a b : Int} (h : a = b) : Ending.returned (.int k a) = .returned (.int k b) := by rw [h]

theorem low16 (c : Int) (w : World) (h0 : 0 ≤ c) (h1 : c ≤ 255) : Calls Try.prog 16 #[.int .u8 c] w fun e w' => e = .returned (.int .u8 (lower c)) ∧ w' = w := by
  by_cases ha : 65 ≤ c
  · by_cases hb : c ≤ 90
    · have HE : Hid (c + 97 - 65 = lower c) := by rw [lower_yes ha hb]; show c + 97 - 65 = c + 32; omega
      go_enter Try.func16, Try.ntmps16
      go_wp2
      go_ret
      exact ⟨ret_int HE.out, rfl⟩
    · have HE : Hid (c = lower c) := (lower_no (.inr (by omega))).symm
      have hb' : decide (c ≤ 90) = false := decide_eq_false hb
      go_enter Try.func16, Try.ntmps16
      go_wp2
      go_ret
      exact ⟨ret_int HE.out, rfl⟩
  · have HE : Hid (c = lower c) := (lower_no (.inl (by omega))).symm
    have ha' : decide (65 ≤ c) = false := decide_eq_false ha
    go_enter Try.func16, Try.ntmps16
    go_wp2
    go_ret
    exact ⟨ret_int HE.out, rfl⟩

theorem low12 (c : Int) (w : World) (h0 : 0 ≤ c) (h1 : c ≤ 255) : Calls Try.prog 12 #[.int .u8 c] w fun e w' => e = .returned (.int .u8 (lower c)) ∧ w' = w := by
  go_enter Try.func12, Try.ntmps12
  go_wp2_with fail
  refine (low16 c _ h0 h1).mono ?_
  rintro e w' ⟨rfl, hw⟩
  obtain rfl := hw.symm
  go_wp2
  go_ret
  exact ⟨rfl, rfl⟩

def isUp (c : Int) : Bool := decide (65 ≤ c ∧ c ≤ 90)
def isLet (c : Int) : Bool := decide ((97 ≤ c ∧ c ≤ 122) ∨ (65 ≤ c ∧ c ≤ 90))

theorem ret_bool {a b : Bool} (h : a = b) : Ending.returned (.bool a) = .returned (.bool b) := by rw [h]

theorem up15 (c : Int) (w : World) : Calls Try.prog 15 #[.int .u8 c] w fun e w' => e = .returned (.bool (isUp c)) ∧ w' = w := by
  by_cases ha : 65 ≤ c
  · by_cases hb : c ≤ 90
    · have HE : Hid (true = isUp c) := (decide_eq_true ⟨ha, hb⟩).symm
      go_enter Try.func15, Try.ntmps15
      go_wp2
      go_ret
      exact ⟨ret_bool HE.out, rfl⟩
    · have HE : Hid (false = isUp c) := (decide_eq_false (by omega)).symm
      have hb' : decide (c ≤ 90) = false := decide_eq_false hb
      go_enter Try.func15, Try.ntmps15
      go_wp2
      go_ret
      exact ⟨ret_bool HE.out, rfl⟩
  · have HE : Hid (false = isUp c) := (decide_eq_false (by omega)).symm
    have ha' : decide (65 ≤ c) = false := decide_eq_false ha
    go_enter Try.func15, Try.ntmps15
    go_wp2
    go_ret
    exact ⟨ret_bool HE.out, rfl⟩

theorem let14 (c : Int) (w : World) : Calls Try.prog 14 #[.int .u8 c] w fun e w' => e = .returned (.bool (isLet c)) ∧ w' = w := by
  rcases (show (97 ≤ c ∧ c ≤ 122) ∨ (122 < c) ∨ (90 < c ∧ c < 97) ∨ (65 ≤ c ∧ c ≤ 90) ∨ c < 65 by omega) with ⟨h1, h2⟩ | h1 | ⟨h1, h2⟩ | ⟨h1, h2⟩ | h1
  · have HE : Hid (true = isLet c) := (decide_eq_true (by omega)).symm
    go_enter Try.func14, Try.ntmps14
    go_wp2
    go_ret
    exact ⟨ret_bool HE.out, rfl⟩
  · have HE : Hid (false = isLet c) := (decide_eq_false (by omega)).symm
    have d1 : 97 ≤ c := by omega
    have d2 : decide (c ≤ 122) = false := decide_eq_false (by omega)
    have d3 : 65 ≤ c := by omega
    have d4 : decide (c ≤ 90) = false := decide_eq_false (by omega)
    go_enter Try.func14, Try.ntmps14
    go_wp2
    go_ret
    exact ⟨ret_bool HE.out, rfl⟩
  · have HE : Hid (false = isLet c) := (decide_eq_false (by omega)).symm
    have d1 : decide (97 ≤ c) = false := decide_eq_false (by omega)
    have d3 : 65 ≤ c := by omega
    have d4 : decide (c ≤ 90) = false := decide_eq_false (by omega)
    go_enter Try.func14, Try.ntmps14
    go_wp2
    go_ret
    exact ⟨ret_bool HE.out, rfl⟩
  · have HE : Hid (true = isLet c) := (decide_eq_true (by omega)).symm
    have d1 : decide (97 ≤ c) = false := decide_eq_false (by omega)
    go_enter Try.func14, Try.ntmps14
    go_wp2
    go_ret
    exact ⟨ret_bool HE.out, rfl⟩
  · have HE : Hid (false = isLet c) := (decide_eq_false (by omega)).symm
    have d1 : decide (97 ≤ c) = false := decide_eq_false (by omega)
    have d3 : decide (65 ≤ c) = false := decide_eq_false (by omega)
    go_enter Try.func14, Try.ntmps14
    go_wp2
    go_ret
    exact ⟨ret_bool HE.out, rfl⟩
end Go.Proofs.Qxb6604076a
