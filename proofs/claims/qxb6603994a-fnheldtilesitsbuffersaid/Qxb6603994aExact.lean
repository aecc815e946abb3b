/-
  THE WALK OF FnHeldExact (5).
-/
import Derived.Test.Qxb6603994aClone
import Derived.Test.Qxb6603994aHeld
import Derived.WalkSmall
namespace Go.Proofs.Qxb6603994a
open Go.RowKit

/-! ### The plain part -/
/-- The first 'len' cells of block g are the numbers zs. -/
def Bytes (g : Nat) (w : World) (len : Nat) (zs : List Int) : Prop := ∀ j, j < len → w.cell? ⟨g, j, none⟩ = some (.int .u8 (zs.getD j 0))
theorem Bytes.later {g : Nat} {w w' : World} {len : Nat} {zs : List Int} (h : Bytes g w len zs) (hb : Below w.heap.size w w') : Bytes g w' len zs := fun j hj => cell_later hb (h j hj)
theorem copied_bytes {w w' : World} {len : Nat} {zs : List Int} (h : Copied .u8 w len zs len 5 w') : Bytes w.heap.size w' len zs ∧ Below w.heap.size w w' := by
  obtain ⟨xs, hown, h1, _, hb⟩ := h
  exact ⟨fun j hj => (hown.cellAt j (by omega)).trans (h1 j hj), hb⟩

/-- Outside the window the wrapped difference is outside too. -/
theorem out_of_window {at0 ta first n i : Int} (hf : 0 ≤ first) (hn : 0 ≤ n) (hs : first + n ≤ 9223372036854775807) (hi0 : -9223372036854775808 ≤ i) (hi1 : i ≤ 9223372036854775807) (h : at0 ≠ ta ∨ i < first ∨ n ≤ i - first) :
    ∃ d, wrap64 (i - first) = d ∧ (d < 0 ∨ n ≤ d ∨ at0 ≠ ta) := by
  refine ⟨_, rfl, ?_⟩
  unfold wrap64
  omega
theorem in_window {first i : Int} (hf : 0 ≤ first) (hi1 : i ≤ 9223372036854775807) (h1 : first ≤ i) : wrap64 (i - first) = i - first := by
  unfold wrap64
  omega

theorem zz17 (s : Option Addr) (len cap : Nat) (a1 a2 a3 a4 a5 a6 a7 : Int) (w : World) (h : len ≤ 1048576) :
    Calls Try.prog 17 #[.slice s len cap, .int .i64 a1, .int .i64 a2, .int .i64 a3, .int .i64 a4, .int .i64 a5, .int .i64 a6, .int .i64 a7] w fun e w' => e = .returned (.bool true) ∧ w = w' := by
  go_enter Try.func17, Try.ntmps17
  go_wp2
  go_ret
  exact ⟨rfl, rfl⟩

theorem zz17_no (s : Option Addr) (len cap : Nat) (a1 a2 a3 a4 a5 a6 a7 : Int) (w : World) (h : 1048576 < len) :
    Calls Try.prog 17 #[.slice s len cap, .int .i64 a1, .int .i64 a2, .int .i64 a3, .int .i64 a4, .int .i64 a5, .int .i64 a6, .int .i64 a7] w fun e w' => e = .returned (.bool false) ∧ w = w' := by
  go_enter Try.func17, Try.ntmps17
  go_wp2
  go_ret
  exact ⟨rfl, rfl⟩

theorem quo_bounds (len : Nat) (a : Int) (h : len ≤ 1048576) (h0 : 0 < a) : 0 ≤ (len : Int) / a ∧ (len : Int) / a ≤ 1048576 := by
  have h1 : (0 : Int) ≤ (len : Int) / a := Int.ediv_nonneg (by omega) (by omega)
  have h2 : (len : Int) / a ≤ (len : Int) := Int.ediv_le_self _ (by omega)
  omega

/-! ### The early answers -/
theorem he_long (s : Option Addr) (len cap : Nat) (a1 a2 a3 a4 a5 a6 a7 : Int) (w : World) (h : 1048576 < len) :
    Calls Try.prog 5 #[.slice s len cap, .int .i64 a1, .int .i64 a2, .int .i64 a3, .int .i64 a4, .int .i64 a5, .int .i64 a6, .int .i64 a7] w fun e w' => e = .returned (.bool true) ∧ Below w.heap.size w w' := by
  go_enter Try.func5, Try.ntmps5
  go_wp2_with fail
  refine (zz17_no s len cap a1 a2 a3 a4 a5 a6 a7 _ h).mono ?_
  rintro e w' ⟨rfl, rfl⟩
  go_wp2
  go_ret
  exact ⟨rfl, Below.refl _ _⟩

theorem he_early (s : Option Addr) (len cap : Nat) (a1 a2 a3 a4 a5 a6 a7 : Int) (w : World) (h : len ≤ 1048576) (hn1 : a3 ≤ 9223372036854775807)
    (hc : a6 < 0 ∨ (0 ≤ a6 ∧ a3 < 0) ∨ (0 ≤ a6 ∧ 0 ≤ a3 ∧ a2 < 0) ∨ (0 ≤ a6 ∧ 0 ≤ a3 ∧ 0 ≤ a2 ∧ 9223372036854775807 - a3 < a2) ∨ (0 < a6 ∧ 0 ≤ a3 ∧ 0 ≤ a2 ∧ a2 ≤ 9223372036854775807 - a3 ∧ 0 ≤ (len : Int) / a6 ∧ (len : Int) / a6 ≤ 1048576 ∧ (len : Int) / a6 < a3)) :
    Calls Try.prog 5 #[.slice s len cap, .int .i64 a1, .int .i64 a2, .int .i64 a3, .int .i64 a4, .int .i64 a5, .int .i64 a6, .int .i64 a7] w fun e w' => e = .returned (.bool true) ∧ Below w.heap.size w w' := by
  rcases hc with hc | ⟨h1, hc⟩ | ⟨h1, h2, hc⟩ | ⟨h1, h2, h3, hc⟩ | ⟨h1, h2, h3, h4, hq0, hq1, hc⟩
  all_goals
    go_enter Try.func5, Try.ntmps5
    go_wp2_with fail
    refine (zz17 s len cap a1 a2 a3 a4 a5 a6 a7 _ h).mono ?_
    rintro e w' ⟨rfl, rfl⟩
    go_wp2
    go_ret
    exact ⟨rfl, Below.refl _ _⟩

/-! ### Outside the window -/
set_option maxHeartbeats 1000000 in
theorem he_out_nil (a1 a2 a3 a4 a5 a6 a7 : Int) (w : World) (h6 : a6 = 0 ∨ (0 < a6 ∧ a3 ≤ 0)) (h3 : 0 ≤ a3) (h2 : 0 ≤ a2) (hs : a2 ≤ 9223372036854775807 - a3) (hi0 : -9223372036854775808 ≤ a7) (hi1 : a7 ≤ 9223372036854775807)
    (hout : (a1 == a4) = false ∨ ((a1 == a4) = true ∧ decide (a2 ≤ a7) = false) ∨ ((a1 == a4) = true ∧ a2 ≤ a7 ∧ decide (a7 - a2 < a3) = false)) :
    Calls Try.prog 5 #[.slice none 0 0, .int .i64 a1, .int .i64 a2, .int .i64 a3, .int .i64 a4, .int .i64 a5, .int .i64 a6, .int .i64 a7] w fun e w' => e = .returned (.bool true) ∧ Below w.heap.size w w' := by
  obtain ⟨d, hd, hno⟩ := out_of_window (at0 := a1) (ta := a4) h2 h3 (by omega) hi0 hi1 (by
    rcases hout with h | ⟨_, h⟩ | ⟨_, h, h'⟩
    · exact .inl (by simpa using h)
    · exact .inr (.inl (by have := of_decide_eq_false h; omega))
    · exact .inr (.inr (by have := of_decide_eq_false h'; omega)))
  have HD : Hid (wrap64 (a7 - a2) = d) := hd
  have HN : Hid (d < 0 ∨ a3 ≤ d ∨ a1 ≠ a4) := hno
  clear hd hno
  have hq := fun (w : World) (a : Option Addr) (n c n' c' : Nat) => Lib.run_eql_slice_nil (P := Try.prog) w 46 5 a n c n' c' Try.underlying46
  rcases h6 with rfl | ⟨h6, hq2⟩
  all_goals
    go_enter Try.func5, Try.ntmps5
    go_wp2_with fail
    refine (zz17 none 0 0 a1 a2 a3 a4 a5 _ a7 _ (by omega)).mono ?_
    rintro e w' ⟨rfl, rfl⟩
    go_wp2_with fail
    refine (cloneBytes_nil _).mono ?_
    rintro e w' ⟨rfl, hw⟩
    obtain rfl := hw.symm
    clear hw
    go_wp2_with fail
    refine (newCursor none 0 0 a1 a2 a3 _).mono ?_
    rintro e u1 ⟨p1, rfl, hC1, hB1⟩
    have hK1 : Hid (Below w.heap.size w u1) := hB1
    clear hB1
    go_wp2_with fail
    refine (newFile a4 a5 _ _).mono ?_
    rintro e u2 ⟨p2, rfl, hF2, hB2⟩
    have hK2 : Hid (Below w.heap.size w u2) := hK1.out.trans (hB2.mono hK1.out.size)
    have hC2 := hC1.later hB2
    clear hK1 hB2 hC1
    go_wp2_with fail
    refine (zz_no hC2 hF2 HD.out HN.out).mono ?_
    rintro e u3 ⟨rfl, q3, rfl⟩
    clear hC2 hF2
    rcases hout with g | ⟨g, g'⟩ | ⟨g, g', g''⟩
    all_goals
      go_wp2
      go_ret
      exact ⟨rfl, below_drewN hK2.out _⟩
end Go.Proofs.Qxb6603994a
