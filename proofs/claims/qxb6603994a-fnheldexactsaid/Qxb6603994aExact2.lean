/-
  THE WALK OF FnHeldExact (5): a buffer that is not nil, outside the window; the window.
-/
import Derived.Test.Qxb6603994aExact
namespace Go.Proofs.Qxb6603994a
open Go.RowKit

set_option maxHeartbeats 1000000 in
theorem he_out_some (b off : Nat) (sp : Option Nat) (len cap : Nat) (zs : List Int) (a1 a2 a3 a4 a5 a6 a7 : Int) (w : World) (h6 : a6 = 0 ∨ (0 < a6 ∧ 0 ≤ (len : Int) / a6 ∧ (len : Int) / a6 ≤ 1048576 ∧ a3 ≤ (len : Int) / a6)) (hlen : len ≤ 1048576) (hsp : 0 < len → sp = none ∧ b < w.heap.size)
    (hc : ∀ j, j < len → w.cell? ⟨b, off + j, none⟩ = some (.int .u8 (zs.getD j 0))) (h3 : 0 ≤ a3) (h2 : 0 ≤ a2) (hs : a2 ≤ 9223372036854775807 - a3) (hi0 : -9223372036854775808 ≤ a7) (hi1 : a7 ≤ 9223372036854775807)
    (hout : (a1 == a4) = false ∨ ((a1 == a4) = true ∧ decide (a2 ≤ a7) = false) ∨ ((a1 == a4) = true ∧ a2 ≤ a7 ∧ decide (a7 - a2 < a3) = false)) :
    Calls Try.prog 5 #[.slice (some ⟨b, off, sp⟩) len cap, .int .i64 a1, .int .i64 a2, .int .i64 a3, .int .i64 a4, .int .i64 a5, .int .i64 a6, .int .i64 a7] w fun e w' => e = .returned (.bool true) ∧ Below w.heap.size w w' := by
  obtain ⟨d, hd, hno⟩ := out_of_window (at0 := a1) (ta := a4) h2 h3 (by omega) hi0 hi1 (by
    rcases hout with h | ⟨_, h⟩ | ⟨_, h, h'⟩
    · exact .inl (by simpa using h)
    · exact .inr (.inl (by have := of_decide_eq_false h; omega))
    · exact .inr (.inr (by have := of_decide_eq_false h'; omega)))
  have HD : Hid (wrap64 (a7 - a2) = d) := hd
  have HN : Hid (d < 0 ∨ a3 ≤ d ∨ a1 ≠ a4) := hno
  clear hd hno
  have hq := fun (w : World) (a : Option Addr) (n c n' c' : Nat) => Lib.run_eql_slice_nil (P := Try.prog) w 46 5 a n c n' c' Try.underlying46
  rcases h6 with rfl | ⟨h6, hq0, hq1, hq2⟩
  all_goals
    go_enter Try.func5, Try.ntmps5
    go_wp2_with fail
    refine (zz17 (some ⟨b, off, sp⟩) len cap a1 a2 a3 a4 a5 _ a7 _ (by omega)).mono ?_
    rintro e w' ⟨rfl, rfl⟩
    go_wp2_with fail
    refine (cloneBytes_some b off sp len cap zs _ hlen hsp hc).mono ?_
    rintro e u0 ⟨rfl, hcop⟩
    obtain ⟨_, hB0⟩ := copied_bytes hcop
    have hK0 : Hid (Below w.heap.size w u0) := hB0
    clear hcop hB0 hsp hc
    go_wp2_with fail
    refine (newCursor (some ⟨w.heap.size, 0, none⟩) len len a1 a2 a3 _).mono ?_
    rintro e u1 ⟨p1, rfl, hC1, hB1⟩
    have hK1 : Hid (Below w.heap.size w u1) := hK0.out.trans (hB1.mono hK0.out.size)
    clear hK0 hB1
    go_wp2_with fail
    refine (newFile a4 a5 _ _).mono ?_
    rintro e u2 ⟨p2, rfl, hF2, hB2⟩
    have hK2 : Hid (Below w.heap.size w u2) := hK1.out.trans (hB2.mono hK1.out.size)
    have hC2 := hC1.later hB2
    clear hK1 hB2 hC1
    go_wp2_with fail
    refine (zz_no hC2 hF2 HD.out HN.out).mono ?_
    rintro e u3 ⟨rfl, q3, rfl⟩
    clear hC2 hF2
    rcases hout with g | ⟨g, g'⟩ | ⟨g, g', g''⟩
    all_goals
      go_wp2
      go_ret
      exact ⟨rfl, below_drewN hK2.out _⟩

/-! ### Inside the window -/
set_option maxHeartbeats 1000000 in
theorem he_in_nil (a1 a2 a3 a5 a7 : Int) (w : World) (h3 : 0 ≤ a3) (h2 : 0 ≤ a2) (hs : a2 ≤ 9223372036854775807 - a3) (hi1 : a7 ≤ 9223372036854775807) (g1 : a2 ≤ a7) (g2 : a7 - a2 < a3) :
    Calls Try.prog 5 #[.slice none 0 0, .int .i64 a1, .int .i64 a2, .int .i64 a3, .int .i64 a1, .int .i64 a5, .int .i64 0, .int .i64 a7] w fun e w' => e = .returned (.bool true) ∧ Below w.heap.size w w' := by
  have HD : Hid (wrap64 (a7 - a2) = a7 - a2) := in_window h2 hi1 g1
  have hq := fun (w : World) (a : Option Addr) (n c n' c' : Nat) => Lib.run_eql_slice_nil (P := Try.prog) w 46 5 a n c n' c' Try.underlying46
  go_enter Try.func5, Try.ntmps5
  go_wp2_with fail
  refine (zz17 none 0 0 a1 a2 a3 a1 a5 0 a7 _ (by omega)).mono ?_
  rintro e w' ⟨rfl, rfl⟩
  go_wp2_with fail
  refine (cloneBytes_nil _).mono ?_
  rintro e w' ⟨rfl, hw⟩
  obtain rfl := hw.symm
  clear hw
  go_wp2_with fail
  refine (newCursor none 0 0 a1 a2 a3 _).mono ?_
  rintro e u1 ⟨p1, rfl, hC1, hB1⟩
  have hK1 : Hid (Below w.heap.size w u1) := hB1
  clear hB1
  go_wp2_with fail
  refine (newFile a1 a5 _ _).mono ?_
  rintro e u2 ⟨p2, rfl, hF2, hB2⟩
  have hK2 : Hid (Below w.heap.size w u2) := hK1.out.trans (hB2.mono hK1.out.size)
  have hC2 := hC1.later hB2
  clear hK1 hB2 hC1
  go_wp2_with fail
  refine (zz_nil hC2 hF2 HD.out (by omega) g2 (by omega)).mono ?_
  rintro e u3 ⟨rfl, q3, rfl⟩
  clear hC2 hF2
  go_wp2
  go_loopw [20] (fun i wr => i = .int .i64 0 ∧ Below w.heap.size w wr) (fun _ _ => 0)
  case atStart => exact ⟨rfl, below_drewN hK2.out _⟩
  case round =>
    obtain ⟨rfl, hb⟩ := hrel
    have hK3 : Hid (Below w.heap.size w wr) := hb
    clear hb
    go_wp2
    go_ret
    exact ⟨rfl, hK3.out⟩
end Go.Proofs.Qxb6603994a
