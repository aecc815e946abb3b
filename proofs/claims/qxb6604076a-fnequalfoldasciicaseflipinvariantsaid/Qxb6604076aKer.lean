/-
  THE WALKS OF FnLowerASCIIKernel (6) AND FnLowerASCIIIdempotentLowersOnlyCapitals (7).
-/
import Derived.Test.Qxb6604076aLow
import Derived.Laws.BitsAllLaws
import Derived.RowKit3
namespace Go.Proofs.Qxb6604076a
open Go.RowKit

/-! ### The plain part: the bit 0x20 -/
/-- The bit 0x20 turned. -/
def flip (c : Int) : Int := if c / 32 % 2 = 0 then c + 32 else c - 32

set_option maxRecDepth 100000 in
theorem xor_tab : ∀ x : Fin 256, (x.val ^^^ 32) = if x.val / 32 % 2 = 0 then x.val + 32 else x.val - 32 := by decide +kernel

theorem xor_32 {c : Int} (h0 : 0 ≤ c) (h1 : c ≤ 255) : bits .xor .u8 c 32 = flip c := by
  rw [u8_xor c 32 h0 (by omega) (by omega) (by omega)]
  have h := xor_tab ⟨c.toNat, by omega⟩
  have e : (32 : Int).toNat = 32 := rfl
  simp only at h
  rw [e, h]
  unfold flip
  split <;> split <;> omega

theorem xor_eq_32 {c d : Int} (h0 : 0 ≤ c) (h1 : c ≤ 255) (g0 : 0 ≤ d) (g1 : d ≤ 255) : bits .xor .u8 c d = 32 ↔ d = flip c := by
  have hf := xor_32 h0 h1
  rw [u8_xor c 32 h0 (by omega) (by omega) (by omega)] at hf
  rw [u8_xor c d h0 (by omega) g0 (by omega), ← hf]
  have e : (32 : Int).toNat = 32 := rfl
  rw [e]
  constructor
  · intro h
    have h' : c.toNat ^^^ d.toNat = 32 := by omega
    rw [← h', ← Nat.xor_assoc, Nat.xor_self, Nat.zero_xor]
    omega
  · intro h
    have h' : d.toNat = c.toNat ^^^ 32 := by omega
    rw [h', ← Nat.xor_assoc, Nat.xor_self, Nat.zero_xor]
    rfl

theorem ker_no {c d : Int} (hne : c ≠ d) (hf : d ≠ flip c) : lower c ≠ lower d := by
  unfold flip at hf
  unfold lower
  split at hf <;> split <;> split <;> omega
theorem ker_yes {c : Int} (hl : isLet c = true) : lower c = lower (flip c) := by
  have h := of_decide_eq_true hl
  unfold flip lower
  split <;> split <;> split <;> omega
theorem ker_other {c : Int} (hl : isLet c = false) : lower c ≠ lower (flip c) := by
  have h := of_decide_eq_false hl
  unfold flip lower
  split <;> split <;> split <;> omega

/-! ### The walk -/
theorem ker_walk (c d : Int) (w : World) (h0 : 0 ≤ c) (h1 : c ≤ 255) (g0 : 0 ≤ d) (g1 : d ≤ 255)
    (hc : ((c == d) = true ∧ (lower c == lower d) = true) ∨ ((c == d) = false ∧ (bits .xor .u8 c d == 32) = false ∧ (lower c == lower d) = false) ∨ ((c == d) = false ∧ (bits .xor .u8 c d == 32) = true ∧ (lower c == lower d) = isLet c)) :
    Calls Try.prog 6 #[.int .u8 c, .int .u8 d] w fun e w' => e = .returned (.bool true) ∧ Grown w w' := by
  rcases hc with ⟨e1, e2⟩ | ⟨e1, e2, e3⟩ | ⟨e1, e2, e3⟩
  · go_enter Try.func6, Try.ntmps6
    go_wp2_with fail
    refine (low12 c _ h0 h1).mono ?_
    rintro e w' ⟨rfl, hw⟩
    obtain rfl := hw.symm
    go_wp2_with fail
    refine (low12 d _ g0 g1).mono ?_
    rintro e w' ⟨rfl, hw⟩
    obtain rfl := hw.symm
    go_wp2
    go_ret
    exact ⟨rfl, Grown.refl _⟩
  · go_enter Try.func6, Try.ntmps6
    go_wp2_with fail
    refine (low12 c _ h0 h1).mono ?_
    rintro e w' ⟨rfl, hw⟩
    obtain rfl := hw.symm
    go_wp2_with fail
    refine (low12 d _ g0 g1).mono ?_
    rintro e w' ⟨rfl, hw⟩
    obtain rfl := hw.symm
    go_wp2
    go_ret
    exact ⟨rfl, Grown.refl _⟩
  · go_enter Try.func6, Try.ntmps6
    go_wp2_with fail
    refine (low12 c _ h0 h1).mono ?_
    rintro e w' ⟨rfl, hw⟩
    obtain rfl := hw.symm
    go_wp2_with fail
    refine (low12 d _ g0 g1).mono ?_
    rintro e w' ⟨rfl, hw⟩
    obtain rfl := hw.symm
    go_wp2_with fail
    refine (let14 c _).mono ?_
    rintro e w' ⟨rfl, hw⟩
    obtain rfl := hw.symm
    go_wp2
    go_ret
    exact ⟨rfl, Grown.refl _⟩

theorem ker_all (c d : Int) (w : World) (h0 : 0 ≤ c) (h1 : c ≤ 255) (g0 : 0 ≤ d) (g1 : d ≤ 255) : Calls Try.prog 6 #[.int .u8 c, .int .u8 d] w fun e w' => e = .returned (.bool true) ∧ Grown w w' := by
  refine ker_walk c d w h0 h1 g0 g1 ?_
  by_cases hcd : c = d
  · exact .inl ⟨by simp [hcd], by simp [hcd]⟩
  · have e1 : (c == d) = false := beq_eq_false_iff_ne.2 hcd
    have hx := xor_eq_32 h0 h1 g0 g1
    by_cases hf : d = flip c
    · refine .inr (.inr ⟨e1, beq_iff_eq.2 (hx.2 hf), ?_⟩)
      cases hl : isLet c
      · exact beq_eq_false_iff_ne.2 (by rw [hf]; exact ker_other hl)
      · exact beq_iff_eq.2 (by rw [hf]; exact ker_yes hl)
    · exact .inr (.inl ⟨e1, beq_eq_false_iff_ne.2 fun h => hf (hx.1 h), beq_eq_false_iff_ne.2 (ker_no hcd hf)⟩)

/-! ### Lowering twice -/
theorem idem_walk (c : Int) (w : World) (h0 : 0 ≤ c) (h1 : c ≤ 255) : Calls Try.prog 7 #[.int .u8 c] w fun e w' => e = .returned (.bool true) ∧ Grown w w' := by
  obtain ⟨l0, l1⟩ := lower_bounds h0 h1
  have e1 : (lower (lower c) != lower c) = false := by
    rw [bne_eq_false_iff_eq]
    by_cases h : 65 ≤ c ∧ c ≤ 90
    · rw [lower_yes h.1 h.2]
      exact lower_no (by omega)
    · rw [lower_no (c := c) (by omega)]
      exact lower_no (by omega)
  have e2 : isUp (lower c) = false := decide_eq_false (by unfold lower; split <;> omega)
  by_cases hu : isUp c = true
  · have e3 : (lower c != c) = true := by
      rw [bne_iff_ne]
      have := of_decide_eq_true hu
      unfold lower
      split <;> omega
    go_enter Try.func7, Try.ntmps7
    go_wp2_with fail
    refine (low12 c _ h0 h1).mono ?_
    rintro e w' ⟨rfl, hw⟩
    obtain rfl := hw.symm
    go_wp2_with fail
    refine (low12 (lower c) _ l0 l1).mono ?_
    rintro e w' ⟨rfl, hw⟩
    obtain rfl := hw.symm
    go_wp2_with fail
    refine (up15 (lower c) _).mono ?_
    rintro e w' ⟨rfl, hw⟩
    obtain rfl := hw.symm
    go_wp2_with fail
    refine (up15 c _).mono ?_
    rintro e w' ⟨rfl, hw⟩
    obtain rfl := hw.symm
    go_wp2
    go_ret
    exact ⟨rfl, Grown.refl _⟩
  · have e3 : (lower c != c) = false := by
      rw [bne_eq_false_iff_eq]
      have := of_decide_eq_false (eq_false_of_ne_true hu)
      exact lower_no (by omega)
    clear hu
    go_enter Try.func7, Try.ntmps7
    go_wp2_with fail
    refine (low12 c _ h0 h1).mono ?_
    rintro e w' ⟨rfl, hw⟩
    obtain rfl := hw.symm
    go_wp2_with fail
    refine (low12 (lower c) _ l0 l1).mono ?_
    rintro e w' ⟨rfl, hw⟩
    obtain rfl := hw.symm
    go_wp2_with fail
    refine (up15 (lower c) _).mono ?_
    rintro e w' ⟨rfl, hw⟩
    obtain rfl := hw.symm
    go_wp2
    go_ret
    exact ⟨rfl, Grown.refl _⟩
end Go.Proofs.Qxb6604076a
