/-
  THE CONTRACT OF lowerTableB1 (13), AND THE WALK OF FnLowerASCIIMatchesTable (5).
-/
import Derived.Test.Qxb6604076aLow
import Derived.RowKit3
namespace Go.Proofs.Qxb6604076a
open Go.RowKit

theorem up_at (k : Nat) (h : k < (⟨#[65, 66, 67, 68, 69, 70, 71, 72, 73, 74, 75, 76, 77, 78, 79, 80, 81, 82, 83, 84, 85, 86, 87, 88, 89, 90]⟩ : ByteArray).size) : ((⟨#[65, 66, 67, 68, 69, 70, 71, 72, 73, 74, 75, 76, 77, 78, 79, 80, 81, 82, 83, 84, 85, 86, 87, 88, 89, 90]⟩ : ByteArray)[k]'h).toNat = 65 + k := by
  have hh : ∀ i : Fin 26, ((⟨#[65, 66, 67, 68, 69, 70, 71, 72, 73, 74, 75, 76, 77, 78, 79, 80, 81, 82, 83, 84, 85, 86, 87, 88, 89, 90]⟩ : ByteArray)[i.val]'i.isLt).toNat = 65 + i.val := by decide
  exact hh ⟨k, h⟩
theorem low_at (k : Nat) (h : k < (⟨#[97, 98, 99, 100, 101, 102, 103, 104, 105, 106, 107, 108, 109, 110, 111, 112, 113, 114, 115, 116, 117, 118, 119, 120, 121, 122]⟩ : ByteArray).size) : ((⟨#[97, 98, 99, 100, 101, 102, 103, 104, 105, 106, 107, 108, 109, 110, 111, 112, 113, 114, 115, 116, 117, 118, 119, 120, 121, 122]⟩ : ByteArray)[k]'h).toNat = 97 + k := by
  have hh : ∀ i : Fin 26, ((⟨#[97, 98, 99, 100, 101, 102, 103, 104, 105, 106, 107, 108, 109, 110, 111, 112, 113, 114, 115, 116, 117, 118, 119, 120, 121, 122]⟩ : ByteArray)[i.val]'i.isLt).toNat = 97 + i.val := by decide
  exact hh ⟨k, h⟩

set_option maxHeartbeats 400000 in
theorem tab13 (c : Int) (w : World) (h0 : 0 ≤ c) (h1 : c ≤ 255) : Calls Try.prog 13 #[.int .u8 c] w fun e w' => e = .returned (.int .u8 (lower c)) ∧ w' = w := by
  go_enter Try.func13, Try.ntmps13
  go_wp2
  go_loop [3] (fun i => ∃ k : Nat, k ≤ 26 ∧ i = .int .i64 k ∧ (c < 65 ∨ 65 + k ≤ c)) (fun i => 26 - (intOf i).toNat)
  case atStart => exact ⟨0, by omega, rfl, by omega⟩
  case round =>
    obtain ⟨k, hk, rfl, hno⟩ := hrel
    by_cases hlt : k < 26
    · have hup := up_at k hlt
      have hlo := low_at k hlt
      by_cases hc : 65 + (k : Int) = c
      · subst hc
        have HE : Hid (97 + (k : Int) = lower (65 + (k : Int))) := by rw [lower_yes (by omega) (by omega)]; show 97 + (k : Int) = _; omega
        clear hno
        go_wp2
        go_ret
        exact ⟨ret_int HE.out, rfl⟩
      · have hc' : ((65 + (k : Int)) == c) = false := beq_eq_false_iff_ne.2 hc
        have HN : Hid (c < 65 ∨ 65 + ((k + 1 : Nat) : Int) ≤ c) := by show c < 65 ∨ _; omega
        clear hno hc
        go_wp2
        go_round
        case rel => exact ⟨k + 1, by omega, by go_num, HN.out⟩
        case measure => simp [intOf]; omega
    · go_wp2
      go_ret
      exact ⟨ret_int (lower_no (by omega)).symm, rfl⟩

theorem match_walk (c : Int) (w : World) (h0 : 0 ≤ c) (h1 : c ≤ 255) : Calls Try.prog 5 #[.int .u8 c] w fun e w' => e = .returned (.bool true) ∧ Grown w w' := by
  go_enter Try.func5, Try.ntmps5
  go_wp2_with fail
  refine (low12 c _ h0 h1).mono ?_
  rintro e w' ⟨rfl, hw⟩
  obtain rfl := hw.symm
  go_wp2_with fail
  refine (tab13 c _ h0 h1).mono ?_
  rintro e w' ⟨rfl, hw⟩
  obtain rfl := hw.symm
  go_wp2
  go_ret
  exact ⟨rfl, Grown.refl _⟩
end Go.Proofs.Qxb6604076a
