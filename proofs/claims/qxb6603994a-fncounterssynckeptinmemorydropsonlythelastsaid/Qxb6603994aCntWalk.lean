/-
  THE WALK OF FnCountersSyncKeptInMemoryDropsOnlyTheLast (4).
-/
import Derived.Test.Qxb6603994aCalls
import Derived.WalkSmall
namespace Go.Proofs.Qxb6603994a
open Go.RowKit

theorem zz12 (a0 a1 a2 a3 a4 a5 a6 a7 a8 : Int) (s : Option Addr) (n c : Nat) (al : Bool) (w : World) (h : n ≤ 1048576) :
    Calls Try.prog 12 #[.int .i64 a0, .int .i64 a1, .int .i64 a2, .int .i64 a3, .int .i64 a4, .int .i64 a5, .int .i64 a6, .int .i64 a7, .int .i64 a8, .slice s n c, .bool al] w fun e w' => e = .returned (.bool true) ∧ w = w' := by
  go_enter Try.func12, Try.ntmps12
  go_wp2
  go_ret
  exact ⟨rfl, rfl⟩

theorem zz12_no (a0 a1 a2 a3 a4 a5 a6 a7 a8 : Int) (s : Option Addr) (n c : Nat) (al : Bool) (w : World) (h : 1048576 < n) :
    Calls Try.prog 12 #[.int .i64 a0, .int .i64 a1, .int .i64 a2, .int .i64 a3, .int .i64 a4, .int .i64 a5, .int .i64 a6, .int .i64 a7, .int .i64 a8, .slice s n c, .bool al] w fun e w' => e = .returned (.bool false) ∧ w = w' := by
  go_enter Try.func12, Try.ntmps12
  go_wp2
  go_ret
  exact ⟨rfl, rfl⟩

theorem cw_long (a0 a1 a2 a3 a4 a5 a6 a7 a8 : Int) (s : Option Addr) (n c : Nat) (al : Bool) (w : World) (h : 1048576 < n) :
    Calls Try.prog 4 #[.int .i64 a0, .int .i64 a1, .int .i64 a2, .int .i64 a3, .int .i64 a4, .int .i64 a5, .int .i64 a6, .int .i64 a7, .int .i64 a8, .slice s n c, .bool al] w fun e w' => e = .returned (.bool true) ∧ Below w.heap.size w w' := by
  go_enter Try.func4, Try.ntmps4
  go_wp2_with fail
  refine (zz12_no a0 a1 a2 a3 a4 a5 a6 a7 a8 s n c al _ h).mono ?_
  rintro e w' ⟨rfl, rfl⟩
  go_wp2
  go_ret
  exact ⟨rfl, Below.refl _ _⟩

theorem cw_mid (a0 a1 a2 a3 a4 a5 a6 a7 a8 : Int) (s : Option Addr) (n c : Nat) (al : Bool) (w : World) (h : n ≤ 1048576) (h' : 262144 < n) :
    Calls Try.prog 4 #[.int .i64 a0, .int .i64 a1, .int .i64 a2, .int .i64 a3, .int .i64 a4, .int .i64 a5, .int .i64 a6, .int .i64 a7, .int .i64 a8, .slice s n c, .bool al] w fun e w' => e = .returned (.bool true) ∧ Below w.heap.size w w' := by
  go_enter Try.func4, Try.ntmps4
  go_wp2_with fail
  refine (zz12 a0 a1 a2 a3 a4 a5 a6 a7 a8 s n c al _ h).mono ?_
  rintro e w' ⟨rfl, rfl⟩
  go_wp2
  go_ret
  exact ⟨rfl, Below.refl _ _⟩

set_option maxHeartbeats 1000000 in
theorem cw_nil (a0 a1 a2 a3 a4 a5 a6 a7 a8 : Int) (al : Bool) (w : World) :
    Calls Try.prog 4 #[.int .i64 a0, .int .i64 a1, .int .i64 a2, .int .i64 a3, .int .i64 a4, .int .i64 a5, .int .i64 a6, .int .i64 a7, .int .i64 a8, .slice none 0 0, .bool al] w fun e w' => e = .returned (.bool true) ∧ Below w.heap.size w w' := by
  have hq := fun (w : World) (a : Option Addr) (n c n' c' : Nat) => Lib.run_eql_slice_nil (P := Try.prog) w 36 55 a n c n' c' Try.underlying36
  have hmk : ∀ w, (Instr.makeSlice 36 (.int .i64 0) (.int .i64 0)).run Try.prog w = .ok (.slice (some ⟨w.heap.size, 0, none⟩) 0 0) (w.alloc (.cells #[] 55)) := fun _ => by kernel_rfl
  have hB0 : Below w.heap.size w (w.alloc (.cells #[] 55)) := (Below.refl _ _).alloc (Nat.le_refl _) _
  go_enter Try.func4, Try.ntmps4
  go_wp2_with fail
  refine (zz12 a0 a1 a2 a3 a4 a5 a6 a7 a8 none 0 0 al _ (by omega)).mono ?_
  rintro e w' ⟨rfl, rfl⟩
  go_wp2_with fail
  refine (cloneU32_nil _).mono ?_
  rintro e w' ⟨rfl, hw⟩
  obtain rfl := hw.symm
  clear hw
  go_wp2_with fail
  refine (new_call a0 a1 a2 a3 a4 a5 a6 a7 a8 none 0 0 false _).mono ?_
  rintro e u1 ⟨p1, rfl, hT1, hB1⟩
  have hC1 : Hid (Below w.heap.size w u1) := hB0.trans (hB1.mono (by simp))
  clear hB0 hB1
  go_wp2_with fail
  refine (three_call hT1).mono ?_
  rintro e u2 ⟨g2, cap2, rfl, hR2, hS2, hcap2, hB2⟩
  have hC2 : Hid (Below w.heap.size w u2) := hC1.out.trans (hB2.mono hC1.out.size)
  clear hC1 hB2 hT1 hmk
  go_wp2_with fail
  refine (new_call a0 a1 a2 a3 a4 a5 a6 a7 a8 none 0 0 true _).mono ?_
  rintro e u3 ⟨p3, rfl, hT3, hB3⟩
  have hC3 : Hid (Below w.heap.size w u3) := hC2.out.trans (hB3.mono hC2.out.size)
  have hR3 := hR2.later hB3
  have hS3 := hS2.later hB3
  clear hC2 hB3 hR2 hS2
  go_wp2_with fail
  refine (two_call hT3 (Or.inl rfl)).mono ?_
  rintro e u4 ⟨g4, rfl, hE4, hB4⟩
  have hC4 : Hid (Below w.heap.size w u4) := hC3.out.trans (hB4.mono hC3.out.size)
  have hR4 := hR3.later hB4
  have hS4 := hS3.later hB4
  clear hC3 hB4 hR3 hS3 hT3
  go_wp2_with fail
  refine (new_call a0 a1 a2 a3 a4 a5 a6 a7 a8 (some ⟨w.heap.size, 0, none⟩) 0 0 al _).mono ?_
  rintro e u5 ⟨p5, rfl, hT5, hB5⟩
  have hC5 : Hid (Below w.heap.size w u5) := hC4.out.trans (hB5.mono hC4.out.size)
  have hR5 := hR4.later hB5
  have hS5 := hS4.later hB5
  have hE5 := hE4.later hB5
  clear hC4 hB5 hR4 hS4 hE4
  go_wp2_with fail
  refine (two_call hT5 (Or.inr (by simp))).mono ?_
  rintro e u6 ⟨g6, rfl, hK6, hB6⟩
  have hC6 : Hid (Below w.heap.size w u6) := hC5.out.trans (hB6.mono hC5.out.size)
  have hR6 := hR5.later hB6
  have hS6 := hS5.later hB6
  have hE6 := hE5.later hB6
  clear hC5 hB6 hR5 hS5 hE5 hT5
  go_wp2_with fail
  refine (same_call hK6 hE6).mono ?_
  rintro e u7 ⟨rfl, n7, hw7⟩
  have hB7 : Below u6.heap.size u6 u7 := by rw [hw7]; exact below_drewN (Below.refl _ _) _
  clear hw7
  have hC7 : Hid (Below w.heap.size w u7) := hC6.out.trans (hB7.mono hC6.out.size)
  have hR7 := hR6.later hB7
  have hS7 := hS6.later hB7
  have hE7 := hE6.later hB7
  clear hC6 hB7 hR6 hS6 hE6 hK6
  go_wp2_with fail
  refine (same_call hR7 hE7).mono ?_
  rintro e u8 ⟨rfl, n8, hw8⟩
  have hB8 : Below u7.heap.size u7 u8 := by rw [hw8]; exact below_drewN (Below.refl _ _) _
  clear hw8
  have hC8 : Hid (Below w.heap.size w u8) := hC7.out.trans (hB8.mono hC7.out.size)
  obtain ⟨y8, y9, y10, y11⟩ := hS7.later hB8
  clear hC7 hB8 hR7 hS7 hE7
  go_wp2
  go_ret
  exact ⟨rfl, hC8.out⟩
set_option maxHeartbeats 1000000 in
theorem cw_some (a0 a1 a2 a3 a4 a5 a6 a7 a8 : Int) (al : Bool) (b off : Nat) (sp : Option Nat) (len cap : Nat) (zs : List Int) (w : World) (hlen : len ≤ 262144) (hsp : 0 < len → sp = none ∧ b < w.heap.size)
    (hc : ∀ j, j < len → w.cell? ⟨b, off + j, none⟩ = some (.int .u32 (zs.getD j 0))) :
    Calls Try.prog 4 #[.int .i64 a0, .int .i64 a1, .int .i64 a2, .int .i64 a3, .int .i64 a4, .int .i64 a5, .int .i64 a6, .int .i64 a7, .int .i64 a8, .slice (some ⟨b, off, sp⟩) len cap, .bool al] w fun e w' => e = .returned (.bool true) ∧ Below w.heap.size w w' := by
  have hq := fun (w : World) (a : Option Addr) (n c n' c' : Nat) => Lib.run_eql_slice_nil (P := Try.prog) w 36 55 a n c n' c' Try.underlying36
  go_enter Try.func4, Try.ntmps4
  go_wp2_with fail
  refine (zz12 a0 a1 a2 a3 a4 a5 a6 a7 a8 (some ⟨b, off, sp⟩) len cap al _ (by omega)).mono ?_
  rintro e w' ⟨rfl, rfl⟩
  go_wp2_with fail
  refine (cloneU32_some b off sp len cap zs _ (by omega) hsp hc).mono ?_
  rintro e u0 ⟨rfl, _, _, _, _, hB0⟩
  clear hc hsp
  go_wp2_with fail
  refine (new_call a0 a1 a2 a3 a4 a5 a6 a7 a8 none 0 0 false _).mono ?_
  rintro e u1 ⟨p1, rfl, hT1, hB1⟩
  have hC1 : Hid (Below w.heap.size w u1) := hB0.trans (hB1.mono hB0.size)
  clear hB0 hB1
  go_wp2_with fail
  refine (three_call hT1).mono ?_
  rintro e u2 ⟨g2, cap2, rfl, hR2, hS2, hcap2, hB2⟩
  have hC2 : Hid (Below w.heap.size w u2) := hC1.out.trans (hB2.mono hC1.out.size)
  clear hC1 hB2 hT1
  go_wp2_with fail
  refine (new_call a0 a1 a2 a3 a4 a5 a6 a7 a8 (some ⟨w.heap.size, 0, none⟩) len len true _).mono ?_
  rintro e u3 ⟨p3, rfl, hT3, hB3⟩
  have hC3 : Hid (Below w.heap.size w u3) := hC2.out.trans (hB3.mono hC2.out.size)
  have hR3 := hR2.later hB3
  have hS3 := hS2.later hB3
  clear hC2 hB3 hR2 hS2
  go_wp2_with fail
  refine (two_call hT3 (Or.inl rfl)).mono ?_
  rintro e u4 ⟨g4, rfl, hE4, hB4⟩
  have hC4 : Hid (Below w.heap.size w u4) := hC3.out.trans (hB4.mono hC3.out.size)
  have hR4 := hR3.later hB4
  have hS4 := hS3.later hB4
  clear hC3 hB4 hR3 hS3 hT3
  go_wp2_with fail
  refine (new_call a0 a1 a2 a3 a4 a5 a6 a7 a8 (some ⟨w.heap.size, 0, none⟩) len len al _).mono ?_
  rintro e u5 ⟨p5, rfl, hT5, hB5⟩
  have hC5 : Hid (Below w.heap.size w u5) := hC4.out.trans (hB5.mono hC4.out.size)
  have hR5 := hR4.later hB5
  have hS5 := hS4.later hB5
  have hE5 := hE4.later hB5
  clear hC4 hB5 hR4 hS4 hE4
  go_wp2_with fail
  refine (two_call hT5 (Or.inr (by simp))).mono ?_
  rintro e u6 ⟨g6, rfl, hK6, hB6⟩
  have hC6 : Hid (Below w.heap.size w u6) := hC5.out.trans (hB6.mono hC5.out.size)
  have hR6 := hR5.later hB6
  have hS6 := hS5.later hB6
  have hE6 := hE5.later hB6
  clear hC5 hB6 hR5 hS5 hE5 hT5
  go_wp2_with fail
  refine (same_call hK6 hE6).mono ?_
  rintro e u7 ⟨rfl, n7, hw7⟩
  have hB7 : Below u6.heap.size u6 u7 := by rw [hw7]; exact below_drewN (Below.refl _ _) _
  clear hw7
  have hC7 : Hid (Below w.heap.size w u7) := hC6.out.trans (hB7.mono hC6.out.size)
  have hR7 := hR6.later hB7
  have hS7 := hS6.later hB7
  have hE7 := hE6.later hB7
  clear hC6 hB7 hR6 hS6 hE6 hK6
  go_wp2_with fail
  refine (same_call hR7 hE7).mono ?_
  rintro e u8 ⟨rfl, n8, hw8⟩
  have hB8 : Below u7.heap.size u7 u8 := by rw [hw8]; exact below_drewN (Below.refl _ _) _
  clear hw8
  have hC8 : Hid (Below w.heap.size w u8) := hC7.out.trans (hB8.mono hC7.out.size)
  obtain ⟨y8, y9, y10, y11⟩ := hS7.later hB8
  clear hC7 hB8 hR7 hS7 hE7
  go_wp2
  go_ret
  exact ⟨rfl, hC8.out⟩
end Go.Proofs.Qxb6603994a
