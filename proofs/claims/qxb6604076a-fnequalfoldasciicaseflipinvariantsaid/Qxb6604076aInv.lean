/-
  THE WALK OF FnEqualFoldASCIICaseFlipInvariant (4).
-/
import Derived.Test.Qxb6604076aFlip
import Derived.RowKit3
namespace Go.Proofs.Qxb6604076a
open Go.RowKit

theorem zz10_yes (a b : ByteArray) (w : World) (h : a.size + b.size ≤ 1048576) : Calls Try.prog 10 #[.string a, .string b] w fun e w' => e = .returned (.bool true) ∧ w = w' := by
  have h1 : a.size ≤ 1048576 := by omega
  have h2 : b.size ≤ 1048576 := by omega
  go_enter Try.func10, Try.ntmps10
  go_wp2
  go_ret
  exact ⟨rfl, rfl⟩

theorem zz10_no (a b : ByteArray) (w : World) (h : 1048576 < a.size + b.size) (ha : a.size ≤ 9223372036854775807) (hb : b.size ≤ 9223372036854775807) :
    Calls Try.prog 10 #[.string a, .string b] w fun e w' => e = .returned (.bool false) ∧ w = w' := by
  by_cases h1 : a.size ≤ 1048576
  · by_cases h2 : b.size ≤ 1048576
    all_goals
      go_enter Try.func10, Try.ntmps10
      go_wp2
      go_ret
      exact ⟨rfl, rfl⟩
  · go_enter Try.func10, Try.ntmps10
    go_wp2
    go_ret
    exact ⟨rfl, rfl⟩

theorem grown_more {w v : World} (h : Grown w v) (n : Nat) : Grown w (v.drewN n) := h

theorem inv_no (a b : ByteArray) (w : World) (h : 1048576 < a.size + b.size) (ha : a.size ≤ 9223372036854775807) (hb : b.size ≤ 9223372036854775807) :
    Calls Try.prog 4 #[.string a, .string b] w fun e w' => e = .returned (.bool true) ∧ Grown w w' := by
  go_enter Try.func4, Try.ntmps4
  go_wp2_with fail
  refine (zz10_no a b _ h ha hb).mono ?_
  rintro e w' ⟨rfl, rfl⟩
  go_wp2
  go_ret
  exact ⟨rfl, Grown.refl _⟩

set_option maxHeartbeats 1000000 in
theorem inv_yes (a b : ByteArray) (w : World) (h : a.size + b.size ≤ 1048576) :
    Calls Try.prog 4 #[.string a, .string b] w fun e w' => e = .returned (.bool true) ∧ Grown w w' := by
  have h1 : a.size ≤ 1048576 := by omega
  have h2 : b.size ≤ 1048576 := by omega
  obtain ⟨f, hf⟩ : ∃ f, f = strOfNums (flips a) := ⟨_, rfl⟩
  have hff : fold f = fold a := by rw [hf]; exact fold_flips a
  have h3 : f.size ≤ 1048576 := by rw [hf, strOfNums_size, flips_length]; exact h1
  have e1 : eqf a f = true := decide_eq_true hff.symm
  have e2 : eqf f a = true := decide_eq_true hff
  have e3 : eqf f b = eqf a b := by unfold eqf; rw [hff]
  have HC : Hid (∀ w, Calls Try.prog 11 #[.string a] w fun e w' => e = .returned (.string f) ∧ ∃ arr, w' = w.alloc (.cells arr 5)) := fun w => by rw [hf]; exact flip11 a w h1
  clear hf hff
  go_enter Try.func4, Try.ntmps4
  go_wp2_with fail
  refine (zz10_yes a b _ h).mono ?_
  rintro e w' ⟨rfl, rfl⟩
  go_wp2_with fail
  refine (HC.out _).mono ?_
  rintro e u1 ⟨rfl, arr, hu1⟩
  have H1 : Hid (Grown w u1) := by rw [hu1]; exact (Grown.refl _).alloc _ _
  clear hu1 HC
  go_wp2_with fail
  refine (eq9 a f _ h1).mono ?_
  rintro e u2 ⟨rfl, n2, hu2⟩
  have H2 : Hid (Grown w u2) := by rw [hu2]; exact grown_more H1.out n2
  clear hu2 H1
  go_wp2_with fail
  refine (eq9 f a _ h3).mono ?_
  rintro e u3 ⟨rfl, n3, hu3⟩
  have H3 : Hid (Grown w u3) := by rw [hu3]; exact grown_more H2.out n3
  clear hu3 H2
  go_wp2_with fail
  refine (eq9 f b _ h3).mono ?_
  rintro e u4 ⟨rfl, n4, hu4⟩
  have H4 : Hid (Grown w u4) := by rw [hu4]; exact grown_more H3.out n4
  clear hu4 H3
  go_wp2_with fail
  refine (eq9 a b _ h1).mono ?_
  rintro e u5 ⟨rfl, n5, hu5⟩
  have H5 : Hid (Grown w u5) := by rw [hu5]; exact grown_more H4.out n5
  clear hu5 H4
  go_wp2
  go_ret
  exact ⟨rfl, H5.out⟩
end Go.Proofs.Qxb6604076a
