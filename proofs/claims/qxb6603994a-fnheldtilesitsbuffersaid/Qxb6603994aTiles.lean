/-
  THE WALK OF FnHeldTilesItsBuffer (6): the early answers, the state of the loops.
-/
import Derived.Test.Qxb6603994aExact
namespace Go.Proofs.Qxb6603994a
open Go.RowKit

theorem zz22 (s : Option Addr) (len cap : Nat) (a1 a2 a3 a4 a5 : Int) (w : World) (h : len ≤ 1048576) :
    Calls Try.prog 22 #[.slice s len cap, .int .i64 a1, .int .i64 a2, .int .i64 a3, .int .i64 a4, .int .i64 a5] w fun e w' => e = .returned (.bool true) ∧ w = w' := by
  go_enter Try.func22, Try.ntmps22
  go_wp2
  go_ret
  exact ⟨rfl, rfl⟩

theorem zz22_no (s : Option Addr) (len cap : Nat) (a1 a2 a3 a4 a5 : Int) (w : World) (h : 1048576 < len) :
    Calls Try.prog 22 #[.slice s len cap, .int .i64 a1, .int .i64 a2, .int .i64 a3, .int .i64 a4, .int .i64 a5] w fun e w' => e = .returned (.bool false) ∧ w = w' := by
  go_enter Try.func22, Try.ntmps22
  go_wp2
  go_ret
  exact ⟨rfl, rfl⟩

theorem ht_long (s : Option Addr) (len cap : Nat) (a1 a2 a3 a4 a5 : Int) (w : World) (h : 1048576 < len) :
    Calls Try.prog 6 #[.slice s len cap, .int .i64 a1, .int .i64 a2, .int .i64 a3, .int .i64 a4, .int .i64 a5] w fun e w' => e = .returned (.bool true) ∧ Below w.heap.size w w' := by
  go_enter Try.func6, Try.ntmps6
  go_wp2_with fail
  refine (zz22_no s len cap a1 a2 a3 a4 a5 _ h).mono ?_
  rintro e w' ⟨rfl, rfl⟩
  go_wp2
  go_ret
  exact ⟨rfl, Below.refl _ _⟩

theorem ht_early (s : Option Addr) (len cap : Nat) (a1 a2 a3 a4 a5 : Int) (w : World) (h : len ≤ 1048576) (hn1 : a4 ≤ 9223372036854775807)
    (hc : a5 < 0 ∨ (0 ≤ a5 ∧ a4 < 0) ∨ (0 ≤ a5 ∧ 0 ≤ a4 ∧ a3 < 0) ∨ (0 ≤ a5 ∧ 0 ≤ a4 ∧ 0 ≤ a3 ∧ 65536 < a4) ∨ (0 ≤ a5 ∧ 0 ≤ a4 ∧ 0 ≤ a3 ∧ a4 ≤ 65536 ∧ 9223372036854775807 - a4 < a3) ∨
      (0 < a5 ∧ 0 ≤ a4 ∧ 0 ≤ a3 ∧ a4 ≤ 65536 ∧ a3 ≤ 9223372036854775807 - a4 ∧ 0 ≤ (len : Int) / a5 ∧ (len : Int) / a5 ≤ 1048576 ∧ (len : Int) / a5 < a4) ∨
      (0 < a5 ∧ 0 ≤ a4 ∧ 0 ≤ a3 ∧ a4 ≤ 65536 ∧ a3 ≤ 9223372036854775807 - a4 ∧ 0 ≤ (len : Int) / a5 ∧ (len : Int) / a5 ≤ 1048576 ∧ a4 ≤ (len : Int) / a5 ∧ (a2 == a1) = true) ∨
      (a5 = 0 ∧ 0 ≤ a4 ∧ 0 ≤ a3 ∧ a4 ≤ 65536 ∧ a3 ≤ 9223372036854775807 - a4 ∧ (a2 == a1) = true)) :
    Calls Try.prog 6 #[.slice s len cap, .int .i64 a1, .int .i64 a2, .int .i64 a3, .int .i64 a4, .int .i64 a5] w fun e w' => e = .returned (.bool true) ∧ Below w.heap.size w w' := by
  rcases hc with hc | ⟨h1, hc⟩ | ⟨h1, h2, hc⟩ | ⟨h1, h2, h3, hc⟩ | ⟨h1, h2, h3, h4, hc⟩ | ⟨h1, h2, h3, h4, h5, hq0, hq1, hc⟩ | ⟨h1, h2, h3, h4, h5, hq0, hq1, hq2, hc⟩ | ⟨rfl, h2, h3, h4, h5, hc⟩
  all_goals
    go_enter Try.func6, Try.ntmps6
    go_wp2_with fail
    refine (zz22 s len cap a1 a2 a3 a4 _ _ h).mono ?_
    rintro e w' ⟨rfl, rfl⟩
    go_wp2
    go_ret
    exact ⟨rfl, Below.refl _ _⟩

/-- What stands in memory throughout the loops. -/
structure St (w : World) (pc pt po : Nat) (s : Option Addr) (len : Nat) (zs : List Int) (a1 a2 a3 n wd : Int) (wr : World) : Prop where
  below : Below w.heap.size w wr
  cur : Cur pc wr s len len a1 a3 n
  tab : FT pt wr a1 wd
  oth : FT po wr a2 wd
  bytes : Bytes w.heap.size wr len zs

theorem St.later {w : World} {pc pt po : Nat} {s : Option Addr} {len : Nat} {zs : List Int} {a1 a2 a3 n wd : Int} {wr wr' : World} (h : St w pc pt po s len zs a1 a2 a3 n wd wr) (hb : Below wr.heap.size wr wr') : St w pc pt po s len zs a1 a2 a3 n wd wr' :=
  ⟨h.below.trans (hb.mono h.below.size), h.cur.later hb, h.tab.later hb, h.oth.later hb, h.bytes.later hb⟩
theorem St.drewN {w : World} {pc pt po : Nat} {s : Option Addr} {len : Nat} {zs : List Int} {a1 a2 a3 n wd : Int} {wr : World} (h : St w pc pt po s len zs a1 a2 a3 n wd wr) (q : Nat) : St w pc pt po s len zs a1 a2 a3 n wd (wr.drewN q) :=
  h.later (below_drewN (Below.refl _ _) _)

theorem diff_k (a3 : Int) (k : Int) (h : -9223372036854775808 ≤ k) (h' : k ≤ 9223372036854775807) : wrap64 (a3 + k - a3) = k := by
  unfold wrap64
  omega
theorem diff_one (a3 : Int) : wrap64 (a3 - 1 - a3) = -1 := by
  unfold wrap64
  omega
end Go.Proofs.Qxb6603994a
