/-
  THE CONTRACTS OF ZZNewCursor (20), ZZNewFileTable (21), held (25), ZZHeld (19).
-/
import Derived.Test.Qxb6603994aRows
import Derived.WalkKit
import Derived.WalkSpells
import Derived.Deep.QuietTactic
import Derived.BigQuiet
namespace Go.Proofs.Qxb6603994a
open Go.RowKit

/-- Block p holds the cursor. -/
structure Cur (p : Nat) (w : World) (s : Option Addr) (len cap : Nat) (ca first n : Int) : Prop where
  c0 : w.cell? ⟨p, 0, none⟩ = some (.slice s len cap)
  c1 : w.cell? ⟨p, 1, none⟩ = some (.int .i64 ca)
  c2 : w.cell? ⟨p, 2, none⟩ = some (.int .i64 first)
  c3 : w.cell? ⟨p, 3, none⟩ = some (.int .i64 n)
/-- Block p holds the file table (where it starts, the width). -/
structure FT (p : Nat) (w : World) (ta width : Int) : Prop where
  c0 : w.cell? ⟨p, 0, none⟩ = some (.int .i64 ta)
  c2 : w.cell? ⟨p, 2, none⟩ = some (.int .i64 width)
theorem Cur.later {p : Nat} {w w' : World} {s : Option Addr} {len cap : Nat} {ca first n : Int} (h : Cur p w s len cap ca first n) (hb : Below w.heap.size w w') : Cur p w' s len cap ca first n :=
  ⟨cell_later hb h.c0, cell_later hb h.c1, cell_later hb h.c2, cell_later hb h.c3⟩
theorem FT.later {p : Nat} {w w' : World} {ta width : Int} (h : FT p w ta width) (hb : Below w.heap.size w w') : FT p w' ta width :=
  ⟨cell_later hb h.c0, cell_later hb h.c2⟩

theorem newCursor (s : Option Addr) (len cap : Nat) (ca first n : Int) (w : World) :
    Calls Try.prog 20 #[.slice s len cap, .int .i64 ca, .int .i64 first, .int .i64 n] w fun e w' => ∃ p, e = .returned (.pointer (some ⟨p, 0, none⟩)) ∧ Cur p w' s len cap ca first n ∧ Below w.heap.size w w' := by
  go_enter Try.func20, Try.ntmps20
  go_wp2
  go_ret
  exact ⟨w.heap.size, rfl, ⟨World.cell?_alloc_at _ _ _ _ rfl, World.cell?_alloc_at _ _ _ _ rfl, World.cell?_alloc_at _ _ _ _ rfl, World.cell?_alloc_at _ _ _ _ rfl⟩, (Below.refl _ _).alloc (Nat.le_refl _) _⟩

theorem newFile (ta tc width : Int) (w : World) :
    Calls Try.prog 21 #[.int .i64 ta, .int .i64 tc, .int .i64 width] w fun e w' => ∃ p, e = .returned (.pointer (some ⟨p, 0, none⟩)) ∧ FT p w' ta width ∧ Below w.heap.size w w' := by
  go_enter Try.func21, Try.ntmps21
  go_wp2
  go_ret
  exact ⟨w.heap.size, rfl, ⟨World.cell?_alloc_at _ _ _ _ rfl, World.cell?_alloc_at _ _ _ _ rfl⟩, (Below.refl _ _).alloc (Nat.le_refl _) _⟩

set_option maxHeartbeats 400000 in
theorem held_no (pc pt : Nat) (s : Option Addr) (len cap : Nat) (ca first n ta width i d : Int) (w : World) (hC : Cur pc w s len cap ca first n) (hF : FT pt w ta width) (hd : wrap64 (i - first) = d)
    (h : d < 0 ∨ n ≤ d ∨ ca ≠ ta) :
    Calls Try.prog 25 #[.pointer (some ⟨pc, 0, none⟩), .pointer (some ⟨pt, 0, none⟩), .int .i64 i] w fun e w' => e = .returned (.slice none 0 0) ∧ ∃ q, w' = w.drewN q := by
  obtain ⟨c0, c1, c2, c3⟩ := hC
  obtain ⟨t0, t2⟩ := hF
  by_cases h0 : d < 0
  · have g0 : decide (0 ≤ d) = false := decide_eq_false (by omega)
    clear h h0
    go_enter Try.func25, Try.ntmps25
    go_wp2
    go_quiet (fail)
    go_wp2
    go_ret
    exact ⟨rfl, _, rfl⟩
  · have g0 : 0 ≤ d := by omega
    by_cases h1 : n ≤ d
    · have g1 : decide (d < n) = false := decide_eq_false (by omega)
      clear h h0 h1
      go_enter Try.func25, Try.ntmps25
      go_wp2
      go_quiet (fail)
      go_wp2
      go_ret
      exact ⟨rfl, _, rfl⟩
    · have g1 : d < n := by omega
      have g2 : (ca == ta) = false := by simp; omega
      clear h h0 h1
      go_enter Try.func25, Try.ntmps25
      go_wp2
      go_quiet (fail)
      go_wp2
      go_ret
      exact ⟨rfl, _, rfl⟩

set_option maxHeartbeats 400000 in
theorem held_nil (pc pt : Nat) (ca first n i d : Int) (w : World) (hC : Cur pc w none 0 0 ca first n) (hF : FT pt w ca 0) (hd : wrap64 (i - first) = d) (h0 : 0 ≤ d) (h1 : d < n) (hn : n ≤ 9223372036854775807) :
    Calls Try.prog 25 #[.pointer (some ⟨pc, 0, none⟩), .pointer (some ⟨pt, 0, none⟩), .int .i64 i] w fun e w' => e = .returned (.slice none 0 0) ∧ ∃ q, w' = w.drewN q := by
  obtain ⟨c0, c1, c2, c3⟩ := hC
  obtain ⟨t0, t2⟩ := hF
  go_enter Try.func25, Try.ntmps25
  go_wp2
  go_quiet (fail)
  go_wp2
  go_quiet (fail)
  go_wp2
  go_ret
  exact ⟨rfl, _, World.drewN_drewN _ _ _⟩

/-- A held entry: 'wd' bytes at offset 'lo' of block g. -/
def HeldOut (g lo wd : Nat) (e : Ending) : Prop := ∃ x cp, e = .returned (.slice (some x) wd cp) ∧ (0 < wd → x = ⟨g, lo, none⟩)

set_option maxHeartbeats 400000 in
theorem held_some (pc pt g : Nat) (len lo wd : Nat) (ca first n width i d : Int) (w : World) (hC : Cur pc w (some ⟨g, 0, none⟩) len len ca first n) (hF : FT pt w ca width) (hd : wrap64 (i - first) = d) (h0 : 0 ≤ d) (h1 : d < n) (hn : n ≤ 9223372036854775807)
    (hL : d * width = lo) (hH : (d + 1) * width = (lo : Int) + wd) (hle : lo + wd ≤ len) (hlen : len ≤ 1048576) :
    Calls Try.prog 25 #[.pointer (some ⟨pc, 0, none⟩), .pointer (some ⟨pt, 0, none⟩), .int .i64 i] w fun e w' => HeldOut g lo wd e ∧ ∃ q, w' = w.drewN q := by
  obtain ⟨c0, c1, c2, c3⟩ := hC
  obtain ⟨t0, t2⟩ := hF
  go_enter Try.func25, Try.ntmps25
  go_wp2
  go_quiet (fail)
  go_wp2
  go_quiet (fail)
  go_wp2
  all_goals
    go_ret
    first
    | exact ⟨⟨⟨g, lo, none⟩, _, rfl, fun _ => rfl⟩, _, rfl⟩
    | exact ⟨⟨_, _, rfl, fun h => absurd h (by omega)⟩, _, rfl⟩

/-! ### ZZHeld (19): it hands the call on -/
theorem zz_no {pc pt : Nat} {s : Option Addr} {len cap : Nat} {ca first n ta width i d : Int} {w : World} (hC : Cur pc w s len cap ca first n) (hF : FT pt w ta width) (hd : wrap64 (i - first) = d)
    (h : d < 0 ∨ n ≤ d ∨ ca ≠ ta) :
    Calls Try.prog 19 #[.pointer (some ⟨pc, 0, none⟩), .pointer (some ⟨pt, 0, none⟩), .int .i64 i] w fun e w' => e = .returned (.slice none 0 0) ∧ ∃ q, w' = w.drewN q := by
  have H : Hid (Calls Try.prog 25 #[.pointer (some ⟨pc, 0, none⟩), .pointer (some ⟨pt, 0, none⟩), .int .i64 i] w fun e w' => e = .returned (.slice none 0 0) ∧ ∃ q, w' = w.drewN q) := held_no pc pt s len cap ca first n ta width i d w hC hF hd h
  clear hC hF hd h
  go_enter Try.func19, Try.ntmps19
  go_wp2_with fail
  refine H.out.mono ?_
  rintro e w' ⟨rfl, q, rfl⟩
  clear H
  go_wp2
  go_ret
  exact ⟨rfl, _, rfl⟩

theorem zz_nil {pc pt : Nat} {ca first n i d : Int} {w : World} (hC : Cur pc w none 0 0 ca first n) (hF : FT pt w ca 0) (hd : wrap64 (i - first) = d) (h0 : 0 ≤ d) (h1 : d < n) (hn : n ≤ 9223372036854775807) :
    Calls Try.prog 19 #[.pointer (some ⟨pc, 0, none⟩), .pointer (some ⟨pt, 0, none⟩), .int .i64 i] w fun e w' => e = .returned (.slice none 0 0) ∧ ∃ q, w' = w.drewN q := by
  have H : Hid (Calls Try.prog 25 #[.pointer (some ⟨pc, 0, none⟩), .pointer (some ⟨pt, 0, none⟩), .int .i64 i] w fun e w' => e = .returned (.slice none 0 0) ∧ ∃ q, w' = w.drewN q) := held_nil pc pt ca first n i d w hC hF hd h0 h1 hn
  clear hC hF hd h0 h1 hn
  go_enter Try.func19, Try.ntmps19
  go_wp2_with fail
  refine H.out.mono ?_
  rintro e w' ⟨rfl, q, rfl⟩
  clear H
  go_wp2
  go_ret
  exact ⟨rfl, _, rfl⟩

theorem zz_some {pc pt g len lo wd : Nat} {ca first n width i d : Int} {w : World} (hC : Cur pc w (some ⟨g, 0, none⟩) len len ca first n) (hF : FT pt w ca width) (hd : wrap64 (i - first) = d) (h0 : 0 ≤ d) (h1 : d < n) (hn : n ≤ 9223372036854775807)
    (hL : d * width = lo) (hH : (d + 1) * width = (lo : Int) + wd) (hle : lo + wd ≤ len) (hlen : len ≤ 1048576) :
    Calls Try.prog 19 #[.pointer (some ⟨pc, 0, none⟩), .pointer (some ⟨pt, 0, none⟩), .int .i64 i] w fun e w' => HeldOut g lo wd e ∧ ∃ q, w' = w.drewN q := by
  have H : Hid (Calls Try.prog 25 #[.pointer (some ⟨pc, 0, none⟩), .pointer (some ⟨pt, 0, none⟩), .int .i64 i] w fun e w' => HeldOut g lo wd e ∧ ∃ q, w' = w.drewN q) := held_some pc pt g len lo wd ca first n width i d w hC hF hd h0 h1 hn hL hH hle hlen
  clear hC hF hd h0 h1 hn hL hH hle hlen
  go_enter Try.func19, Try.ntmps19
  go_wp2_with fail
  refine H.out.mono ?_
  rintro e w' ⟨⟨x, cp, rfl, hx⟩, q, rfl⟩
  have HX : Hid (0 < wd → x = ⟨g, lo, none⟩) := hx
  clear H hx
  go_wp2
  go_ret
  exact ⟨⟨_, _, rfl, HX.out⟩, _, rfl⟩
end Go.Proofs.Qxb6603994a
