/-
  THE WALK OF FnHeldTilesItsBuffer (6): entries of no byte; a nil buffer.
-/
import Derived.Test.Qxb6603994aTiles
namespace Go.Proofs.Qxb6603994a
open Go.RowKit

set_option maxHeartbeats 2000000 in
theorem ht_zero (b off : Nat) (sp : Option Nat) (len cap : Nat) (zs : List Int) (a1 a2 a3 : Int) (N : Nat) (w : World) (hlen : len ≤ 1048576) (hsp : 0 < len → sp = none ∧ b < w.heap.size)
    (hc : ∀ j, j < len → w.cell? ⟨b, off + j, none⟩ = some (.int .u8 (zs.getD j 0))) (h3 : 0 ≤ a3) (hN : N ≤ 65536) (hs : a3 ≤ 9223372036854775807 - N) (hne : (a2 == a1) = false) :
    Calls Try.prog 6 #[.slice (some ⟨b, off, sp⟩) len cap, .int .i64 a1, .int .i64 a2, .int .i64 a3, .int .i64 N, .int .i64 0] w fun e w' => e = .returned (.bool true) ∧ Below w.heap.size w w' := by
  have hq := fun (w : World) (a : Option Addr) (n c n' c' : Nat) => run_neq_slice_nil_any (P := Try.prog) w 46 5 a n c n' c' Try.underlying46
  have hn12 : Hid (a1 ≠ a2) := fun h => by simp [h] at hne
  go_enter Try.func6, Try.ntmps6
  go_wp2_with fail
  refine (zz22 (some ⟨b, off, sp⟩) len cap a1 a2 a3 N 0 _ (by omega)).mono ?_
  rintro e w' ⟨rfl, rfl⟩
  go_wp2_with fail
  refine (cloneBytes_some b off sp len cap zs _ hlen hsp hc).mono ?_
  rintro e u0 ⟨rfl, hcop⟩
  obtain ⟨hb0, hB0⟩ := copied_bytes hcop
  have hK0 : Hid (Below w.heap.size w u0) := hB0
  have hY0 : Hid (Bytes w.heap.size u0 len zs) := hb0
  clear hcop hB0 hsp hc hb0
  go_wp2_with fail
  refine (newCursor (some ⟨w.heap.size, 0, none⟩) len len a1 a3 N _).mono ?_
  rintro e u1 ⟨pc, rfl, hC1, hB1⟩
  have hK1 : Hid (Below w.heap.size w u1) := hK0.out.trans (hB1.mono hK0.out.size)
  have hY1 : Hid (Bytes w.heap.size u1 len zs) := hY0.out.later hB1
  clear hK0 hB1 hY0
  go_wp2_with fail
  refine (newFile a1 N 0 _).mono ?_
  rintro e u2 ⟨pt, rfl, hF2, hB2⟩
  have hK2 : Hid (Below w.heap.size w u2) := hK1.out.trans (hB2.mono hK1.out.size)
  have hY2 : Hid (Bytes w.heap.size u2 len zs) := hY1.out.later hB2
  have hC2 := hC1.later hB2
  clear hK1 hB2 hC1 hY1
  go_wp2_with fail
  refine (newFile a2 N 0 _).mono ?_
  rintro e u3 ⟨po, rfl, hO3, hB3⟩
  have hS3 : Hid (St w pc pt po (some ⟨w.heap.size, 0, none⟩) len zs a1 a2 a3 N 0 u3) := ⟨hK2.out.trans (hB3.mono hK2.out.size), hC2.later hB3, hF2.later hB3, hO3, hY2.out.later hB3⟩
  clear hK2 hB3 hC2 hY2 hF2 hO3
  go_wp2
  go_loopw [16, 17] (fun vp vj wr => ∃ k : Nat, k ≤ N ∧ vj = .int .i64 k ∧ vp = .int .i64 0 ∧ Hid (St w pc pt po (some ⟨w.heap.size, 0, none⟩) len zs a1 a2 a3 N 0 wr)) (fun _ vj _ => N - (intOf vj).toNat)
  case atStart => exact ⟨0, by omega, rfl, rfl, hS3⟩
  case round =>
    obtain ⟨k, hk, rfl, rfl, hS⟩ := hrel
    clear hS3
    by_cases hlt : k < N
    · go_wp2_with fail
      refine (zz_some (lo := 0) (wd := 0) hS.out.cur hS.out.tab (diff_k a3 k (by omega) (by omega)) (by omega) (by omega) (by omega) (by simp) (by simp) (by omega) hlen).mono ?_
      rintro e u4 ⟨⟨x, cp, rfl, hx⟩, q4, rfl⟩
      have hS4 : Hid (St w pc pt po (some ⟨w.heap.size, 0, none⟩) len zs a1 a2 a3 N 0 (wr.drewN q4)) := hS.out.drewN q4
      clear hS hx
      obtain ⟨wo, hwo⟩ : ∃ wo : World, wo = wr.drewN q4 := ⟨_, rfl⟩
      rw [← hwo] at hS4 ⊢
      clear hwo
      go_wp2
      go_loopw [19] (fun i wr => i = .int .i64 0 ∧ Hid (St w pc pt po (some ⟨w.heap.size, 0, none⟩) len zs a1 a2 a3 N 0 wr)) (fun _ _ => 0)
      case atStart => exact ⟨rfl, hS4⟩
      case round =>
        obtain ⟨rfl, hS5⟩ := hrel
        clear hS4
        go_wp2_with fail
        refine (zz_no hS5.out.cur hS5.out.oth (diff_k a3 k (by omega) (by omega)) (.inr (.inr hn12.out))).mono ?_
        rintro e u6 ⟨rfl, q6, rfl⟩
        go_wp2
        go_roundw
        case rel => exact ⟨k + 1, by omega, by go_num, by go_num, hS5.out.drewN _⟩
        case measure => simp [intOf]; omega
    · go_wp2_with fail
      refine (zz_no hS.out.cur hS.out.tab (diff_one a3) (.inl (by omega))).mono ?_
      rintro e u4 ⟨rfl, q4, rfl⟩
      go_wp2_with fail
      refine (zz_no (hS.out.drewN q4).cur (hS.out.drewN q4).tab (diff_k a3 N (by omega) (by omega)) (.inr (.inl (by omega)))).mono ?_
      rintro e u5 ⟨rfl, q5, rfl⟩
      go_wp2
      go_ret
      exact ⟨rfl, (hS.out.drewN _).below⟩
set_option maxHeartbeats 2000000 in
theorem ht_nil_zero (a1 a2 a3 : Int) (N : Nat) (w : World) (h3 : 0 ≤ a3) (hN : N ≤ 65536) (hs : a3 ≤ 9223372036854775807 - N) (hne : (a2 == a1) = false) :
    Calls Try.prog 6 #[.slice none 0 0, .int .i64 a1, .int .i64 a2, .int .i64 a3, .int .i64 N, .int .i64 0] w fun e w' => e = .returned (.bool true) ∧ Below w.heap.size w w' := by
  have hq := fun (w : World) (a : Option Addr) (n c n' c' : Nat) => run_neq_slice_nil_any (P := Try.prog) w 46 5 a n c n' c' Try.underlying46
  have hn12 : Hid (a1 ≠ a2) := fun h => by simp [h] at hne
  go_enter Try.func6, Try.ntmps6
  go_wp2_with fail
  refine (zz22 none 0 0 a1 a2 a3 N 0 _ (by omega)).mono ?_
  rintro e w' ⟨rfl, rfl⟩
  go_wp2_with fail
  refine (cloneBytes_nil _).mono ?_
  rintro e w' ⟨rfl, hw⟩
  obtain rfl := hw.symm
  clear hw
  go_wp2_with fail
  refine (newCursor none 0 0 a1 a3 N _).mono ?_
  rintro e u1 ⟨pc, rfl, hC1, hB1⟩
  have hK1 : Hid (Below w.heap.size w u1) := hB1
  have hY1 : Hid (Bytes w.heap.size u1 0 []) := fun j hj => by omega
  clear hB1
  go_wp2_with fail
  refine (newFile a1 N 0 _).mono ?_
  rintro e u2 ⟨pt, rfl, hF2, hB2⟩
  have hK2 : Hid (Below w.heap.size w u2) := hK1.out.trans (hB2.mono hK1.out.size)
  have hY2 : Hid (Bytes w.heap.size u2 0 []) := hY1.out.later hB2
  have hC2 := hC1.later hB2
  clear hK1 hB2 hC1 hY1
  go_wp2_with fail
  refine (newFile a2 N 0 _).mono ?_
  rintro e u3 ⟨po, rfl, hO3, hB3⟩
  have hS3 : Hid (St w pc pt po none 0 [] a1 a2 a3 N 0 u3) := ⟨hK2.out.trans (hB3.mono hK2.out.size), hC2.later hB3, hF2.later hB3, hO3, hY2.out.later hB3⟩
  clear hK2 hB3 hC2 hY2 hF2 hO3
  go_wp2
  go_loopw [16, 17] (fun vp vj wr => ∃ k : Nat, k ≤ N ∧ vj = .int .i64 k ∧ vp = .int .i64 0 ∧ Hid (St w pc pt po none 0 [] a1 a2 a3 N 0 wr)) (fun _ vj _ => N - (intOf vj).toNat)
  case atStart => exact ⟨0, by omega, rfl, rfl, hS3⟩
  case round =>
    obtain ⟨k, hk, rfl, rfl, hS⟩ := hrel
    clear hS3
    by_cases hlt : k < N
    · go_wp2_with fail
      refine (zz_nil hS.out.cur hS.out.tab (diff_k a3 k (by omega) (by omega)) (by omega) (by omega) (by omega)).mono ?_
      rintro e u4 ⟨rfl, q4, rfl⟩
      have hS4 : Hid (St w pc pt po none 0 [] a1 a2 a3 N 0 (wr.drewN q4)) := hS.out.drewN q4
      clear hS
      obtain ⟨wo, hwo⟩ : ∃ wo : World, wo = wr.drewN q4 := ⟨_, rfl⟩
      rw [← hwo] at hS4 ⊢
      clear hwo
      go_wp2
      go_loopw [19] (fun i wr => i = .int .i64 0 ∧ Hid (St w pc pt po none 0 [] a1 a2 a3 N 0 wr)) (fun _ _ => 0)
      case atStart => exact ⟨rfl, hS4⟩
      case round =>
        obtain ⟨rfl, hS5⟩ := hrel
        clear hS4
        go_wp2_with fail
        refine (zz_no hS5.out.cur hS5.out.oth (diff_k a3 k (by omega) (by omega)) (.inr (.inr hn12.out))).mono ?_
        rintro e u6 ⟨rfl, q6, rfl⟩
        go_wp2
        go_roundw
        case rel => exact ⟨k + 1, by omega, by go_num, by go_num, hS5.out.drewN _⟩
        case measure => simp [intOf]; omega
    · go_wp2_with fail
      refine (zz_no hS.out.cur hS.out.tab (diff_one a3) (.inl (by omega))).mono ?_
      rintro e u4 ⟨rfl, q4, rfl⟩
      go_wp2_with fail
      refine (zz_no (hS.out.drewN q4).cur (hS.out.drewN q4).tab (diff_k a3 N (by omega) (by omega)) (.inr (.inl (by omega)))).mono ?_
      rintro e u5 ⟨rfl, q5, rfl⟩
      go_wp2
      go_ret
      exact ⟨rfl, (hS.out.drewN _).below⟩
set_option maxHeartbeats 2000000 in
theorem ht_nil_pos (a1 a2 a3 a5 : Int) (w : World) (h3 : 0 ≤ a3) (h5 : 0 < a5) (hs : a3 ≤ 9223372036854775807) (hne : (a2 == a1) = false) :
    Calls Try.prog 6 #[.slice none 0 0, .int .i64 a1, .int .i64 a2, .int .i64 a3, .int .i64 0, .int .i64 a5] w fun e w' => e = .returned (.bool true) ∧ Below w.heap.size w w' := by
  have hq := fun (w : World) (a : Option Addr) (n c n' c' : Nat) => run_neq_slice_nil_any (P := Try.prog) w 46 5 a n c n' c' Try.underlying46
  go_enter Try.func6, Try.ntmps6
  go_wp2_with fail
  refine (zz22 none 0 0 a1 a2 a3 0 a5 _ (by omega)).mono ?_
  rintro e w' ⟨rfl, rfl⟩
  go_wp2_with fail
  refine (cloneBytes_nil _).mono ?_
  rintro e w' ⟨rfl, hw⟩
  obtain rfl := hw.symm
  clear hw
  go_wp2_with fail
  refine (newCursor none 0 0 a1 a3 0 _).mono ?_
  rintro e u1 ⟨pc, rfl, hC1, hB1⟩
  have hK1 : Hid (Below w.heap.size w u1) := hB1
  have hY1 : Hid (Bytes w.heap.size u1 0 []) := fun j hj => by omega
  clear hB1
  go_wp2_with fail
  refine (newFile a1 0 a5 _).mono ?_
  rintro e u2 ⟨pt, rfl, hF2, hB2⟩
  have hK2 : Hid (Below w.heap.size w u2) := hK1.out.trans (hB2.mono hK1.out.size)
  have hY2 : Hid (Bytes w.heap.size u2 0 []) := hY1.out.later hB2
  have hC2 := hC1.later hB2
  clear hK1 hB2 hC1 hY1
  go_wp2_with fail
  refine (newFile a2 0 a5 _).mono ?_
  rintro e u3 ⟨po, rfl, hO3, hB3⟩
  have hS3 : Hid (St w pc pt po none 0 [] a1 a2 a3 0 a5 u3) := ⟨hK2.out.trans (hB3.mono hK2.out.size), hC2.later hB3, hF2.later hB3, hO3, hY2.out.later hB3⟩
  clear hK2 hB3 hC2 hY2 hF2 hO3
  go_wp2
  go_loopw [17] (fun vj wr => vj = .int .i64 0 ∧ Hid (St w pc pt po none 0 [] a1 a2 a3 0 a5 wr)) (fun _ _ => 0)
  case atStart => exact ⟨rfl, hS3⟩
  case round =>
    obtain ⟨rfl, hS⟩ := hrel
    clear hS3
    go_wp2_with fail
    refine (zz_no hS.out.cur hS.out.tab (diff_one a3) (.inl (by omega))).mono ?_
    rintro e u4 ⟨rfl, q4, rfl⟩
    go_wp2_with fail
    refine (zz_no (hS.out.drewN q4).cur (hS.out.drewN q4).tab (show wrap64 (a3 - a3) = 0 by unfold wrap64; omega) (.inr (.inl (by omega)))).mono ?_
    rintro e u5 ⟨rfl, q5, rfl⟩
    go_wp2
    go_ret
    exact ⟨rfl, (hS.out.drewN _).below⟩
end Go.Proofs.Qxb6603994a
