/-
  THE WALK OF FnHeldExact (5): a buffer that is not nil, inside the window.
-/
import Derived.Test.Qxb6603994aExact
namespace Go.Proofs.Qxb6603994a
open Go.RowKit

set_option maxHeartbeats 1000000 in
theorem he_in_zero (b off : Nat) (sp : Option Nat) (len cap : Nat) (zs : List Int) (a1 a2 a3 a5 a7 : Int) (w : World) (hlen : len ≤ 1048576) (hsp : 0 < len → sp = none ∧ b < w.heap.size)
    (hc : ∀ j, j < len → w.cell? ⟨b, off + j, none⟩ = some (.int .u8 (zs.getD j 0))) (h3 : 0 ≤ a3) (h2 : 0 ≤ a2) (hs : a2 ≤ 9223372036854775807 - a3) (hi1 : a7 ≤ 9223372036854775807) (g1 : a2 ≤ a7) (g2 : a7 - a2 < a3) :
    Calls Try.prog 5 #[.slice (some ⟨b, off, sp⟩) len cap, .int .i64 a1, .int .i64 a2, .int .i64 a3, .int .i64 a1, .int .i64 a5, .int .i64 0, .int .i64 a7] w fun e w' => e = .returned (.bool true) ∧ Below w.heap.size w w' := by
  have HD : Hid (wrap64 (a7 - a2) = a7 - a2) := in_window h2 hi1 g1
  have hq := fun (w : World) (a : Option Addr) (n c n' c' : Nat) => Lib.run_eql_slice_nil (P := Try.prog) w 46 5 a n c n' c' Try.underlying46
  go_enter Try.func5, Try.ntmps5
  go_wp2_with fail
  refine (zz17 (some ⟨b, off, sp⟩) len cap a1 a2 a3 a1 a5 0 a7 _ (by omega)).mono ?_
  rintro e w' ⟨rfl, rfl⟩
  go_wp2_with fail
  refine (cloneBytes_some b off sp len cap zs _ hlen hsp hc).mono ?_
  rintro e u0 ⟨rfl, hcop⟩
  obtain ⟨_, hB0⟩ := copied_bytes hcop
  have hK0 : Hid (Below w.heap.size w u0) := hB0
  clear hcop hB0 hsp hc
  go_wp2_with fail
  refine (newCursor (some ⟨w.heap.size, 0, none⟩) len len a1 a2 a3 _).mono ?_
  rintro e u1 ⟨p1, rfl, hC1, hB1⟩
  have hK1 : Hid (Below w.heap.size w u1) := hK0.out.trans (hB1.mono hK0.out.size)
  clear hK0 hB1
  go_wp2_with fail
  refine (newFile a1 a5 _ _).mono ?_
  rintro e u2 ⟨p2, rfl, hF2, hB2⟩
  have hK2 : Hid (Below w.heap.size w u2) := hK1.out.trans (hB2.mono hK1.out.size)
  have hC2 := hC1.later hB2
  clear hK1 hB2 hC1
  go_wp2_with fail
  refine (zz_some (lo := 0) (wd := 0) hC2 hF2 HD.out (by omega) g2 (by omega) (by simp) (by simp) (by omega) hlen).mono ?_
  rintro e u3 ⟨⟨x, cp, rfl, hx⟩, q3, rfl⟩
  clear hC2 hF2 hx
  go_wp2
  go_loopw [20] (fun i wr => i = .int .i64 0 ∧ Below w.heap.size w wr) (fun _ _ => 0)
  case atStart => exact ⟨rfl, below_drewN hK2.out _⟩
  case round =>
    obtain ⟨rfl, hb⟩ := hrel
    have hK3 : Hid (Below w.heap.size w wr) := hb
    clear hb
    go_wp2
    go_ret
    exact ⟨rfl, hK3.out⟩

set_option maxHeartbeats 1000000 in
theorem he_in_pos (b off : Nat) (sp : Option Nat) (len cap : Nat) (zs : List Int) (a1 a2 a3 a5 a7 : Int) (W lo : Nat) (w : World) (hlen : len ≤ 1048576) (hsp : 0 < len → sp = none ∧ b < w.heap.size)
    (hc : ∀ j, j < len → w.cell? ⟨b, off + j, none⟩ = some (.int .u8 (zs.getD j 0))) (h3 : 0 ≤ a3) (h2 : 0 ≤ a2) (hs : a2 ≤ 9223372036854775807 - a3) (hi1 : a7 ≤ 9223372036854775807) (g1 : a2 ≤ a7) (g2 : a7 - a2 < a3)
    (hW : 0 < W) (hq0 : 0 ≤ (len : Int) / W) (hq1 : (len : Int) / W ≤ 1048576) (hq2 : a3 ≤ (len : Int) / W) (hL : (a7 - a2) * (W : Int) = lo) (hH : (a7 - a2 + 1) * (W : Int) = (lo : Int) + W) (hle : lo + W ≤ len) :
    Calls Try.prog 5 #[.slice (some ⟨b, off, sp⟩) len cap, .int .i64 a1, .int .i64 a2, .int .i64 a3, .int .i64 a1, .int .i64 a5, .int .i64 W, .int .i64 a7] w fun e w' => e = .returned (.bool true) ∧ Below w.heap.size w w' := by
  have HD : Hid (wrap64 (a7 - a2) = a7 - a2) := in_window h2 hi1 g1
  have HH : Hid ((a7 - a2 + 1) * (W : Int) = (lo : Int) + W) := hH
  have HL : Hid ((a7 - a2) * (W : Int) = lo) := hL
  clear hH hL
  have hq := fun (w : World) (a : Option Addr) (n c n' c' : Nat) => Lib.run_eql_slice_nil (P := Try.prog) w 46 5 a n c n' c' Try.underlying46
  go_enter Try.func5, Try.ntmps5
  go_wp2_with fail
  refine (zz17 (some ⟨b, off, sp⟩) len cap a1 a2 a3 a1 a5 W a7 _ (by omega)).mono ?_
  rintro e w' ⟨rfl, rfl⟩
  go_wp2_with fail
  refine (cloneBytes_some b off sp len cap zs _ hlen hsp hc).mono ?_
  rintro e u0 ⟨rfl, hcop⟩
  obtain ⟨hb0, hB0⟩ := copied_bytes hcop
  have hK0 : Hid (Below w.heap.size w u0) := hB0
  have hY0 : Hid (Bytes w.heap.size u0 len zs) := hb0
  clear hcop hB0 hsp hc hb0
  go_wp2_with fail
  refine (newCursor (some ⟨w.heap.size, 0, none⟩) len len a1 a2 a3 _).mono ?_
  rintro e u1 ⟨p1, rfl, hC1, hB1⟩
  have hK1 : Hid (Below w.heap.size w u1) := hK0.out.trans (hB1.mono hK0.out.size)
  have hY1 : Hid (Bytes w.heap.size u1 len zs) := hY0.out.later hB1
  clear hK0 hB1 hY0
  go_wp2_with fail
  refine (newFile a1 a5 _ _).mono ?_
  rintro e u2 ⟨p2, rfl, hF2, hB2⟩
  have hK2 : Hid (Below w.heap.size w u2) := hK1.out.trans (hB2.mono hK1.out.size)
  have hY2 : Hid (Bytes w.heap.size u2 len zs) := hY1.out.later hB2
  have hC2 := hC1.later hB2
  clear hK1 hB2 hC1 hY1
  go_wp2_with fail
  refine (zz_some (lo := lo) (wd := W) hC2 hF2 HD.out (by omega) g2 (by omega) HL.out HH.out hle hlen).mono ?_
  rintro e u3 ⟨⟨x, cp, rfl, hx⟩, q3, rfl⟩
  obtain rfl := hx hW
  have hL := HL.out
  clear hC2 hF2 hx HH HL
  go_wp2
  go_loopw [20] (fun i wr => ∃ k : Nat, k ≤ W ∧ i = .int .i64 k ∧ Below w.heap.size w wr ∧ Bytes w.heap.size wr len zs) (fun i _ => W - (intOf i).toNat)
  case atStart => exact ⟨0, by omega, rfl, below_drewN hK2.out _, hY2.out.later (below_drewN (Below.refl _ _) _)⟩
  case round =>
    obtain ⟨k, hk, rfl, hb, hy⟩ := hrel
    have hK3 : Hid (Below w.heap.size w wr) := hb
    have hY3 : Hid (Bytes w.heap.size wr len zs) := hy
    clear hb hy hK2 hY2
    by_cases hlt : k < W
    · have hcell := hY3.out (lo + k) (by omega)
      go_wp2
      go_quiet (fail)
      go_wp2
      go_roundw
      case rel => exact ⟨k + 1, by omega, by go_num, below_drewN hK3.out _, hY3.out.later (below_drewN (Below.refl _ _) _)⟩
      case measure => simp [intOf]; omega
    · go_wp2
      go_ret
      exact ⟨rfl, hK3.out⟩
end Go.Proofs.Qxb6603994a
