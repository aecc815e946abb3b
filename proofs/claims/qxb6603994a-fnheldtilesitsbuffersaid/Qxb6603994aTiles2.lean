/-
  THE WALK OF FnHeldTilesItsBuffer (6): a buffer that is not nil, entries of at least one byte.
-/
import Derived.Test.Qxb6603994aTiles
namespace Go.Proofs.Qxb6603994a
open Go.RowKit

set_option maxHeartbeats 2000000 in
theorem ht_pos (b off : Nat) (sp : Option Nat) (len cap : Nat) (zs : List Int) (a1 a2 a3 : Int) (N W : Nat) (w : World) (hlen : len ≤ 1048576) (hsp : 0 < len → sp = none ∧ b < w.heap.size)
    (hc : ∀ j, j < len → w.cell? ⟨b, off + j, none⟩ = some (.int .u8 (zs.getD j 0))) (h3 : 0 ≤ a3) (hN : N ≤ 65536) (hs : a3 ≤ 9223372036854775807 - N) (hne : (a2 == a1) = false)
    (hW : 0 < W) (hq0 : 0 ≤ (len : Int) / W) (hq1 : (len : Int) / W ≤ 1048576) (hq2 : (N : Int) ≤ (len : Int) / W) (hNW : N * W ≤ len) :
    Calls Try.prog 6 #[.slice (some ⟨b, off, sp⟩) len cap, .int .i64 a1, .int .i64 a2, .int .i64 a3, .int .i64 N, .int .i64 W] w fun e w' => e = .returned (.bool true) ∧ Below w.heap.size w w' := by
  have hq := fun (w : World) (a : Option Addr) (n c n' c' : Nat) => run_neq_slice_nil_any (P := Try.prog) w 46 5 a n c n' c' Try.underlying46
  have hn12 : Hid (a1 ≠ a2) := fun h => by simp [h] at hne
  have HNW : Hid (N * W ≤ len) := hNW
  clear hNW
  go_enter Try.func6, Try.ntmps6
  go_wp2_with fail
  refine (zz22 (some ⟨b, off, sp⟩) len cap a1 a2 a3 N W _ (by omega)).mono ?_
  rintro e w' ⟨rfl, rfl⟩
  go_wp2_with fail
  refine (cloneBytes_some b off sp len cap zs _ hlen hsp hc).mono ?_
  rintro e u0 ⟨rfl, hcop⟩
  obtain ⟨hb0, hB0⟩ := copied_bytes hcop
  have hK0 : Hid (Below w.heap.size w u0) := hB0
  have hY0 : Hid (Bytes w.heap.size u0 len zs) := hb0
  clear hcop hB0 hsp hc hb0
  go_wp2_with fail
  refine (newCursor (some ⟨w.heap.size, 0, none⟩) len len a1 a3 N _).mono ?_
  rintro e u1 ⟨pc, rfl, hC1, hB1⟩
  have hK1 : Hid (Below w.heap.size w u1) := hK0.out.trans (hB1.mono hK0.out.size)
  have hY1 : Hid (Bytes w.heap.size u1 len zs) := hY0.out.later hB1
  clear hK0 hB1 hY0
  go_wp2_with fail
  refine (newFile a1 N W _).mono ?_
  rintro e u2 ⟨pt, rfl, hF2, hB2⟩
  have hK2 : Hid (Below w.heap.size w u2) := hK1.out.trans (hB2.mono hK1.out.size)
  have hY2 : Hid (Bytes w.heap.size u2 len zs) := hY1.out.later hB2
  have hC2 := hC1.later hB2
  clear hK1 hB2 hC1 hY1
  go_wp2_with fail
  refine (newFile a2 N W _).mono ?_
  rintro e u3 ⟨po, rfl, hO3, hB3⟩
  have hS3 : Hid (St w pc pt po (some ⟨w.heap.size, 0, none⟩) len zs a1 a2 a3 N W u3) := ⟨hK2.out.trans (hB3.mono hK2.out.size), hC2.later hB3, hF2.later hB3, hO3, hY2.out.later hB3⟩
  clear hK2 hB3 hC2 hY2 hF2 hO3
  go_wp2
  go_loopw [16, 17] (fun vp vj wr => ∃ k P : Nat, k ≤ N ∧ Hid (P = k * W) ∧ P ≤ len ∧ vj = .int .i64 k ∧ vp = .int .i64 P ∧ Hid (St w pc pt po (some ⟨w.heap.size, 0, none⟩) len zs a1 a2 a3 N W wr)) (fun _ vj _ => N - (intOf vj).toNat)
  case atStart => exact ⟨0, 0, by omega, by simp [Hid], by omega, rfl, rfl, hS3⟩
  case round =>
    obtain ⟨k, P, hk, hP, hPl, rfl, rfl, hS⟩ := hrel
    clear hS3
    by_cases hlt : k < N
    · have hP1 : Hid (P + W = (k + 1) * W) := by rw [hP.out]; show k * W + W = _; rw [Nat.add_mul, Nat.one_mul]
      have hPW : P + W ≤ len := by
        have h1 : (k + 1) * W ≤ N * W := Nat.mul_le_mul_right _ (by omega)
        have h2 := hP1.out
        have h3 := HNW.out
        omega
      go_wp2_with fail
      refine (zz_some (lo := P) (wd := W) hS.out.cur hS.out.tab (diff_k a3 k (by omega) (by omega)) (by omega) (by omega) (by omega) ?_ ?_ hPW hlen).mono ?_
      · rw [hP.out, Int.natCast_mul]
      · rw [hP.out, Int.natCast_mul, Int.add_mul, Int.one_mul]
      rintro e u4 ⟨⟨x, cp, rfl, hx⟩, q4, rfl⟩
      obtain rfl := hx hW
      have hS4 : Hid (St w pc pt po (some ⟨w.heap.size, 0, none⟩) len zs a1 a2 a3 N W (wr.drewN q4)) := hS.out.drewN q4
      clear hS hx
      obtain ⟨wo, hwo⟩ : ∃ wo : World, wo = wr.drewN q4 := ⟨_, rfl⟩
      rw [← hwo] at hS4 ⊢
      clear hwo
      go_wp2
      go_loopw [19] (fun i wr => ∃ q : Nat, q ≤ W ∧ i = .int .i64 q ∧ Hid (St w pc pt po (some ⟨w.heap.size, 0, none⟩) len zs a1 a2 a3 N W wr)) (fun i _ => W - (intOf i).toNat)
      case atStart => exact ⟨0, by omega, rfl, hS4⟩
      case round =>
        obtain ⟨q, hqW, rfl, hS5⟩ := hrel
        clear hS4
        by_cases hqlt : q < W
        · have hcell := hS5.out.bytes (P + q) (by omega)
          go_wp2
          go_quiet (fail)
          go_wp2
          go_roundw
          case rel => exact ⟨q + 1, by omega, by go_num, hS5.out.drewN _⟩
          case measure => simp [intOf]; omega
        · go_wp2_with fail
          refine (zz_no hS5.out.cur hS5.out.oth (diff_k a3 k (by omega) (by omega)) (.inr (.inr hn12.out))).mono ?_
          rintro e u6 ⟨rfl, q6, rfl⟩
          go_wp2
          go_roundw
          case rel => exact ⟨k + 1, P + W, by omega, hP1, by omega, by go_num, by go_num, hS5.out.drewN _⟩
          case measure => simp [intOf]; omega
    · go_wp2_with fail
      refine (zz_no hS.out.cur hS.out.tab (diff_one a3) (.inl (by omega))).mono ?_
      rintro e u4 ⟨rfl, q4, rfl⟩
      go_wp2_with fail
      refine (zz_no (hS.out.drewN q4).cur (hS.out.drewN q4).tab (diff_k a3 N (by omega) (by omega)) (.inr (.inl (by omega)))).mono ?_
      rintro e u5 ⟨rfl, q5, rfl⟩
      go_wp2
      go_ret
      exact ⟨rfl, (hS.out.drewN _).below⟩
end Go.Proofs.Qxb6603994a
