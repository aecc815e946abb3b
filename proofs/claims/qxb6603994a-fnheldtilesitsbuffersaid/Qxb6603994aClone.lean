/-
  THE CONTRACTS OF cloneBytes (function 18) AND cloneU32 (function 13): nil goes to nil; else a new row at the head of a new block.
-/
import Derived.Test.Qxb6603994aRows
import Derived.WalkKit
import Derived.WalkSpells
namespace Go.Proofs.Qxb6603994a
open Go.RowKit

theorem Try.info55 : (Try.prog.info? 55).map (fun i => (i.zero, i.size, i.bytes)) = some (some (.int .u32 0), 1, 4) := by kernel_rfl
theorem Try.info5 : (Try.prog.info? 5).map (fun i => (i.zero, i.size, i.bytes)) = some (some (.int .u8 0), 1, 1) := by kernel_rfl

theorem cloneBytes_nil (w : World) :
    Calls Try.prog 18 #[.slice none 0 0] w fun e w' => e = .returned (.slice none 0 0) ∧ w' = w := by
  have hq := fun (w : World) (a : Option Addr) (n c n' c' : Nat) => Lib.run_eql_slice_nil (P := Try.prog) w 46 5 a n c n' c' Try.underlying46
  go_enter Try.func18, Try.ntmps18
  go_wp2
  go_ret
  exact ⟨rfl, rfl⟩

/-- What the loop of the clone holds at round k. -/
def Copied (kd : IntKind) (w : World) (len : Nat) (zs : List Int) (k : Nat) (e : TypeId) (wr : World) : Prop :=
  ∃ xs : List Value, wr.ownsRow w.heap.size e 1 (.slice (some ⟨w.heap.size, 0, none⟩) len len) len xs ∧ (∀ j, j < k → xs[j]? = some (.int kd (zs.getD j 0))) ∧ (∀ j, j < len → ∃ n, xs[j]? = some (.int kd n)) ∧ Below w.heap.size w wr

theorem copied_step {kd : IntKind} {w wr : World} {len k : Nat} {zs : List Int} {e : TypeId} {xs : List Value} (hown : wr.ownsRow w.heap.size e 1 (.slice (some ⟨w.heap.size, 0, none⟩) len len) len xs)
    (hx1 : ∀ j, j < k → xs[j]? = some (.int kd (zs.getD j 0))) (hx2 : ∀ j, j < len → ∃ n, xs[j]? = some (.int kd n)) (hnx : Below w.heap.size w wr) (hlt : k < len) :
    Copied kd w len zs (k + 1) e (wr.setCell ⟨w.heap.size, k, none⟩ (.int kd (zs.getD k 0))) := by
  have hl : xs.length = len := by have := hown.1; omega
  refine ⟨_, (hown.stored k (.int kd (zs.getD k 0))).1, fun j hj => ?_, fun j hj => ?_, hnx.setCell (Nat.le_refl _) _⟩
  · rw [List.getElem?_set]
    by_cases h : k = j
    · subst h; rw [if_pos rfl, if_pos (by omega)]
    · rw [if_neg h]; exact hx1 j (by omega)
  · rw [List.getElem?_set]
    by_cases h : k = j
    · subst h; exact ⟨_, by rw [if_pos rfl, if_pos (by omega)]⟩
    · rw [if_neg h]; exact hx2 j hj

set_option maxHeartbeats 400000 in
theorem cloneBytes_some (b off : Nat) (sp : Option Nat) (len cap : Nat) (zs : List Int) (w : World) (hlen : len ≤ 1048576) (hsp : 0 < len → sp = none ∧ b < w.heap.size)
    (hc : ∀ j, j < len → w.cell? ⟨b, off + j, none⟩ = some (.int .u8 (zs.getD j 0))) :
    Calls Try.prog 18 #[.slice (some ⟨b, off, sp⟩) len cap] w fun e w' => e = .returned (.slice (some ⟨w.heap.size, 0, none⟩) len len) ∧ Copied .u8 w len zs len 5 w' := by
  have hq := fun (w : World) (a : Option Addr) (n c n' c' : Nat) => Lib.run_eql_slice_nil (P := Try.prog) w 46 5 a n c n' c' Try.underlying46
  obtain ⟨i0, hi, hz0, hz1, hz2⟩ := info_parts Try.info5
  go_enter Try.func18, Try.ntmps18
  go_wp2_with (at_make; refine wpList_make_full _ rfl _ _ 46 rfl w.heap.size 5 i0 (.int .u8 0) 1 Try.underlying46 hi hz0 hz1 _ _ _ _ len rfl rfl rfl rfl ?b2 ?b3 (Nat.le_refl _) ?_)
  case b2 => rw [hz2]; omega
  case b3 => unfold maxLen; omega
  intro w0 hown0 hgrow0
  have h0 : Copied .u8 w len zs 0 5 w0 := by
    refine ⟨_, hown0, fun j hj => by omega, fun j hj => ⟨0, ?_⟩, (Below.refl _ _).grown hgrow0 (Nat.le_refl _) (fun k h => by cases h)⟩
    simp [toList_madeCells_one, hj]
  clear hown0 hgrow0 hz0 hz1 hz2 hi
  go_wp2
  go_loopw [4] (fun i wr => ∃ k : Nat, k ≤ len ∧ i = .int .i64 k ∧ Copied .u8 w len zs k 5 wr) (fun i _ => len - (intOf i).toNat)
  case atStart => exact ⟨0, Nat.zero_le _, rfl, h0⟩
  case round =>
    obtain ⟨k, hk, rfl, hcop⟩ := hrel
    clear h0
    by_cases hlt : k < len
    · obtain ⟨hs, hbl⟩ := hsp (by omega)
      subst hs
      obtain ⟨xs, hown, hx1, hx2, hnx⟩ := hcop
      obtain ⟨v, hv⟩ := hx2 k hlt
      have g1 : wr.cell? ⟨b, off + k, none⟩ = some (.int .u8 (zs.getD k 0)) := (hnx.cell (by exact hbl)).trans (hc k hlt)
      have g2 : wr.cell? ⟨w.heap.size, k, none⟩ = some (.int .u8 v) := (hown.cellAt k (by omega)).trans hv
      have g3 : wr.frozen? ⟨w.heap.size, k, none⟩ = false := hown.frozenAt k
      go_wp2
      go_roundw
      case rel => exact ⟨k + 1, by omega, by go_num, copied_step hown hx1 hx2 hnx hlt⟩
      case measure => simp [intOf]; omega
    · go_wp2
      go_ret
      obtain rfl : k = len := by omega
      exact ⟨rfl, hcop⟩
theorem cloneU32_nil (w : World) :
    Calls Try.prog 13 #[.slice none 0 0] w fun e w' => e = .returned (.slice none 0 0) ∧ w' = w := by
  have hq := fun (w : World) (a : Option Addr) (n c n' c' : Nat) => Lib.run_eql_slice_nil (P := Try.prog) w 36 55 a n c n' c' Try.underlying36
  go_enter Try.func13, Try.ntmps13
  go_wp2
  go_ret
  exact ⟨rfl, rfl⟩

set_option maxHeartbeats 400000 in
theorem cloneU32_some (b off : Nat) (sp : Option Nat) (len cap : Nat) (zs : List Int) (w : World) (hlen : len ≤ 1048576) (hsp : 0 < len → sp = none ∧ b < w.heap.size)
    (hc : ∀ j, j < len → w.cell? ⟨b, off + j, none⟩ = some (.int .u32 (zs.getD j 0))) :
    Calls Try.prog 13 #[.slice (some ⟨b, off, sp⟩) len cap] w fun e w' => e = .returned (.slice (some ⟨w.heap.size, 0, none⟩) len len) ∧ Copied .u32 w len zs len 55 w' := by
  have hq := fun (w : World) (a : Option Addr) (n c n' c' : Nat) => Lib.run_eql_slice_nil (P := Try.prog) w 36 55 a n c n' c' Try.underlying36
  obtain ⟨i0, hi, hz0, hz1, hz2⟩ := info_parts Try.info55
  go_enter Try.func13, Try.ntmps13
  go_wp2_with (at_make; refine wpList_make_full _ rfl _ _ 36 rfl w.heap.size 55 i0 (.int .u32 0) 1 Try.underlying36 hi hz0 hz1 _ _ _ _ len rfl rfl rfl rfl ?b2 ?b3 (Nat.le_refl _) ?_)
  case b2 => rw [hz2]; omega
  case b3 => unfold maxLen; omega
  intro w0 hown0 hgrow0
  have h0 : Copied .u32 w len zs 0 55 w0 := by
    refine ⟨_, hown0, fun j hj => by omega, fun j hj => ⟨0, ?_⟩, (Below.refl _ _).grown hgrow0 (Nat.le_refl _) (fun k h => by cases h)⟩
    simp [toList_madeCells_one, hj]
  clear hown0 hgrow0 hz0 hz1 hz2 hi
  go_wp2
  go_loopw [4] (fun i wr => ∃ k : Nat, k ≤ len ∧ i = .int .i64 k ∧ Copied .u32 w len zs k 55 wr) (fun i _ => len - (intOf i).toNat)
  case atStart => exact ⟨0, Nat.zero_le _, rfl, h0⟩
  case round =>
    obtain ⟨k, hk, rfl, hcop⟩ := hrel
    clear h0
    by_cases hlt : k < len
    · obtain ⟨hs, hbl⟩ := hsp (by omega)
      subst hs
      obtain ⟨xs, hown, hx1, hx2, hnx⟩ := hcop
      obtain ⟨v, hv⟩ := hx2 k hlt
      have g1 : wr.cell? ⟨b, off + k, none⟩ = some (.int .u32 (zs.getD k 0)) := (hnx.cell (by exact hbl)).trans (hc k hlt)
      have g2 : wr.cell? ⟨w.heap.size, k, none⟩ = some (.int .u32 v) := (hown.cellAt k (by omega)).trans hv
      have g3 : wr.frozen? ⟨w.heap.size, k, none⟩ = false := hown.frozenAt k
      go_wp2
      go_roundw
      case rel => exact ⟨k + 1, by omega, by go_num, copied_step hown hx1 hx2 hnx hlt⟩
      case measure => simp [intOf]; omega
    · go_wp2
      go_ret
      obtain rfl : k = len := by omega
      exact ⟨rfl, hcop⟩
end Go.Proofs.Qxb6603994a
