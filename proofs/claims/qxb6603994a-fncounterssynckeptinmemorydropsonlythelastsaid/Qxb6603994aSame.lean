/-
  THE CONTRACT OF sameCounters (16), at two rows of two tables each that hold the same numbers.
-/
import Derived.Test.Qxb6603994aRows
import Derived.WalkKit
import Derived.WalkSpells
import Derived.Laws.StructEq
import Derived.Deep.QuietTactic
import Derived.BigQuiet
namespace Go.Proofs.Qxb6603994a
open Go.RowKit

set_option maxHeartbeats 1000000 in
theorem same_any (g1 c1 g2 c2 : Nat) (v0 v1 v2 v3 v4 v5 v6 v7 : Int) (w : World)
    (x0 : w.cell? ⟨g1, 0, none⟩ = some (.int .i64 v0)) (x1 : w.cell? ⟨g1, 1, none⟩ = some (.int .i64 v1)) (x2 : w.cell? ⟨g1, 2, none⟩ = some (.int .i64 v2)) (x3 : w.cell? ⟨g1, 3, none⟩ = some (.int .i64 v3))
    (x4 : w.cell? ⟨g1, 4, none⟩ = some (.int .i64 v4)) (x5 : w.cell? ⟨g1, 5, none⟩ = some (.int .i64 v5)) (x6 : w.cell? ⟨g1, 6, none⟩ = some (.int .i64 v6)) (x7 : w.cell? ⟨g1, 7, none⟩ = some (.int .i64 v7))
    (y0 : w.cell? ⟨g2, 0, none⟩ = some (.int .i64 v0)) (y1 : w.cell? ⟨g2, 1, none⟩ = some (.int .i64 v1)) (y2 : w.cell? ⟨g2, 2, none⟩ = some (.int .i64 v2)) (y3 : w.cell? ⟨g2, 3, none⟩ = some (.int .i64 v3))
    (y4 : w.cell? ⟨g2, 4, none⟩ = some (.int .i64 v4)) (y5 : w.cell? ⟨g2, 5, none⟩ = some (.int .i64 v5)) (y6 : w.cell? ⟨g2, 6, none⟩ = some (.int .i64 v6)) (y7 : w.cell? ⟨g2, 7, none⟩ = some (.int .i64 v7)) :
    Calls Try.prog 16 #[.slice (some ⟨g1, 0, none⟩) 2 c1, .slice (some ⟨g2, 0, none⟩) 2 c2] w fun e w' => e = .returned (.bool true) ∧ ∃ n, w' = w.drewN n := by
  go_enter Try.func16, Try.ntmps16
  go_wp2
  go_loopw [5] (fun i wr => ∃ k n : Nat, k ≤ 2 ∧ i = .int .i64 k ∧ wr = w.drewN n) (fun i _ => 2 - (intOf i).toNat)
  case atStart => exact ⟨0, 0, by omega, rfl, rfl⟩
  case round =>
    obtain ⟨k, n, hk, rfl, rfl⟩ := hrel
    have h3 : k = 0 ∨ k = 1 ∨ k = 2 := by omega
    clear hk
    rcases h3 with rfl | rfl | rfl
    · go_wp2
      go_quiet (fail)
      go_wp2
      go_roundw
      case rel => exact ⟨1, _, by omega, by go_num, rfl⟩
      case measure => simp [intOf]
    · go_wp2
      go_quiet (fail)
      go_wp2
      go_roundw
      case rel => exact ⟨2, _, by omega, by go_num, rfl⟩
      case measure => simp [intOf]
    · go_wp2
      go_ret
      exact ⟨rfl, n, rfl⟩
end Go.Proofs.Qxb6603994a
