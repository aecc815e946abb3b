/-
  THE WALK OF FnEqualFoldASCIIEquivalence (3).
-/
import Derived.Test.Qxb6604076aEq
import Derived.RowKit3
namespace Go.Proofs.Qxb6604076a
open Go.RowKit

theorem eqf_refl (a : ByteArray) : eqf a a = true := decide_eq_true rfl
theorem eqf_symm (a b : ByteArray) : eqf b a = eqf a b := by
  unfold eqf
  by_cases h : fold a = fold b
  · rw [decide_eq_true h, decide_eq_true h.symm]
  · rw [decide_eq_false h, decide_eq_false fun h' => h h'.symm]
theorem eqf_trans {a b c : ByteArray} (h : eqf a b = true) (h' : eqf b c = true) : eqf a c = true :=
  decide_eq_true ((of_decide_eq_true h).trans (of_decide_eq_true h'))

theorem zz8_yes (a b c : ByteArray) (w : World) (h : a.size + b.size + c.size ≤ 1048576) : Calls Try.prog 8 #[.string a, .string b, .string c] w fun e w' => e = .returned (.bool true) ∧ w = w' := by
  have h1 : a.size ≤ 1048576 := by omega
  have h2 : b.size ≤ 1048576 := by omega
  have h3 : c.size ≤ 1048576 := by omega
  go_enter Try.func8, Try.ntmps8
  go_wp2
  go_ret
  exact ⟨rfl, rfl⟩

theorem zz8_no (a b c : ByteArray) (w : World) (h : 1048576 < a.size + b.size + c.size) (ha : a.size ≤ 9223372036854775807) (hb : b.size ≤ 9223372036854775807) (hc : c.size ≤ 9223372036854775807) :
    Calls Try.prog 8 #[.string a, .string b, .string c] w fun e w' => e = .returned (.bool false) ∧ w = w' := by
  by_cases h1 : a.size ≤ 1048576
  · by_cases h2 : b.size ≤ 1048576
    · by_cases h3 : a.size + b.size ≤ 1048576
      · by_cases h4 : c.size ≤ 1048576
        all_goals
          go_enter Try.func8, Try.ntmps8
          go_wp2
          go_ret
          exact ⟨rfl, rfl⟩
      · go_enter Try.func8, Try.ntmps8
        go_wp2
        go_ret
        exact ⟨rfl, rfl⟩
    · go_enter Try.func8, Try.ntmps8
      go_wp2
      go_ret
      exact ⟨rfl, rfl⟩
  · go_enter Try.func8, Try.ntmps8
    go_wp2
    go_ret
    exact ⟨rfl, rfl⟩

theorem grown_drewN (w : World) (n : Nat) : Grown w (w.drewN n) := by
  induction n with
  | zero => exact Grown.refl _
  | succ n ih => exact ih.drew

theorem equiv_no (a b c : ByteArray) (w : World) (h : 1048576 < a.size + b.size + c.size) (ha : a.size ≤ 9223372036854775807) (hb : b.size ≤ 9223372036854775807) (hc : c.size ≤ 9223372036854775807) :
    Calls Try.prog 3 #[.string a, .string b, .string c] w fun e w' => e = .returned (.bool true) ∧ Grown w w' := by
  go_enter Try.func3, Try.ntmps3
  go_wp2_with fail
  refine (zz8_no a b c _ h ha hb hc).mono ?_
  rintro e w' ⟨rfl, rfl⟩
  go_wp2
  go_ret
  exact ⟨rfl, Grown.refl _⟩

set_option maxHeartbeats 1000000 in
theorem equiv_yes (a b c : ByteArray) (w : World) (h : a.size + b.size + c.size ≤ 1048576) :
    Calls Try.prog 3 #[.string a, .string b, .string c] w fun e w' => e = .returned (.bool true) ∧ Grown w w' := by
  have h1 : a.size ≤ 1048576 := by omega
  have h2 : b.size ≤ 1048576 := by omega
  have h3 : c.size ≤ 1048576 := by omega
  have haa := eqf_refl a
  have hba := eqf_symm a b
  have HT : Hid (eqf a b = true → eqf b c = true → eqf a c = true) := fun x y => eqf_trans x y
  go_enter Try.func3, Try.ntmps3
  go_wp2_with fail
  refine (zz8_yes a b c _ h).mono ?_
  rintro e w' ⟨rfl, rfl⟩
  go_wp2_with fail
  refine (eq9 a a _ h1).mono ?_
  rintro e u1 ⟨rfl, hu⟩
  have H1 : Hid (∃ n, u1 = w.drewN n) := hu
  clear hu
  go_wp2_with fail
  refine (eq9 a b _ h1).mono ?_
  rintro e u2 ⟨rfl, n2, rfl⟩
  have H2 : Hid (∃ n, u1.drewN n2 = w.drewN n) := drewN_more H1.out n2
  obtain ⟨v2, hv2⟩ : ∃ v : World, v = u1.drewN n2 := ⟨_, rfl⟩
  rw [← hv2] at H2 ⊢
  clear hv2 H1
  go_wp2_with fail
  refine (eq9 b a _ h2).mono ?_
  rintro e u3 ⟨rfl, n3, rfl⟩
  have H3 : Hid (∃ n, v2.drewN n3 = w.drewN n) := drewN_more H2.out n3
  obtain ⟨v3, hv3⟩ : ∃ v : World, v = v2.drewN n3 := ⟨_, rfl⟩
  rw [← hv3] at H3 ⊢
  clear hv3 H2
  go_wp2_with fail
  refine (eq9 b c _ h2).mono ?_
  rintro e u4 ⟨rfl, n4, rfl⟩
  have H4 : Hid (∃ n, v3.drewN n4 = w.drewN n) := drewN_more H3.out n4
  obtain ⟨v4, hv4⟩ : ∃ v : World, v = v3.drewN n4 := ⟨_, rfl⟩
  rw [← hv4] at H4 ⊢
  clear hv4 H3
  cases hab : eqf a b
  · clear HT
    go_wp2
    go_ret
    exact ⟨rfl, by obtain ⟨n, rfl⟩ := H4.out; exact grown_drewN _ _⟩
  · cases hbc : eqf b c
    · clear HT
      go_wp2
      go_ret
      exact ⟨rfl, by obtain ⟨n, rfl⟩ := H4.out; exact grown_drewN _ _⟩
    · have hac := HT.out hab hbc
      clear HT
      go_wp2_with fail
      refine (eq9 a c _ h1).mono ?_
      rintro e u5 ⟨rfl, n5, rfl⟩
      have H5 : Hid (∃ n, v4.drewN n5 = w.drewN n) := drewN_more H4.out n5
      go_wp2
      go_ret
      exact ⟨rfl, by obtain ⟨n, hn⟩ := H5.out; rw [hn]; exact grown_drewN _ _⟩
end Go.Proofs.Qxb6604076a
