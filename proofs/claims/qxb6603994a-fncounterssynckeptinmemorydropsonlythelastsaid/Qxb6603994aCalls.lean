/-
  ZZCounters (14) BEHIND ZZNewTableSamples (15): what the law takes of the two calls.
-/
import Derived.Test.Qxb6603994aCnt
import Derived.Test.Qxb6603994aSame
namespace Go.Proofs.Qxb6603994a
open Go.RowKit

/-- Block g holds the two tables. -/
structure Row8 (g : Nat) (w : World) (a0 a1 a2 a3 a4 a5 : Int) : Prop where
  x0 : w.cell? ⟨g, 0, none⟩ = some (.int .i64 a0)
  x1 : w.cell? ⟨g, 1, none⟩ = some (.int .i64 a1)
  x2 : w.cell? ⟨g, 2, none⟩ = some (.int .i64 a2)
  x3 : w.cell? ⟨g, 3, none⟩ = some (.int .i64 a2)
  x4 : w.cell? ⟨g, 4, none⟩ = some (.int .i64 a3)
  x5 : w.cell? ⟨g, 5, none⟩ = some (.int .i64 a4)
  x6 : w.cell? ⟨g, 6, none⟩ = some (.int .i64 a5)
  x7 : w.cell? ⟨g, 7, none⟩ = some (.int .i64 4)

/-- Block g holds a third table behind them. -/
structure Row4 (g : Nat) (w : World) (a6 a7 a8 : Int) : Prop where
  x8 : w.cell? ⟨g, 8, none⟩ = some (.int .i64 a6)
  x9 : w.cell? ⟨g, 9, none⟩ = some (.int .i64 a7)
  x10 : w.cell? ⟨g, 10, none⟩ = some (.int .i64 a8)
  x11 : w.cell? ⟨g, 11, none⟩ = some (.int .i64 4)

theorem Row8.later {g : Nat} {w w' : World} {a0 a1 a2 a3 a4 a5 : Int} (h : Row8 g w a0 a1 a2 a3 a4 a5) (hb : Below w.heap.size w w') : Row8 g w' a0 a1 a2 a3 a4 a5 :=
  ⟨cell_later hb h.x0, cell_later hb h.x1, cell_later hb h.x2, cell_later hb h.x3, cell_later hb h.x4, cell_later hb h.x5, cell_later hb h.x6, cell_later hb h.x7⟩
theorem Row4.later {g : Nat} {w w' : World} {a6 a7 a8 : Int} (h : Row4 g w a6 a7 a8) (hb : Below w.heap.size w w') : Row4 g w' a6 a7 a8 :=
  ⟨cell_later hb h.x8, cell_later hb h.x9, cell_later hb h.x10, cell_later hb h.x11⟩

/-- What counters reads of the table samples at block p. -/
structure TS (p : Nat) (w : World) (a0 a1 a2 a3 a4 a5 a6 a7 a8 : Int) (s : Option Addr) (n c : Nat) (al : Bool) : Prop where
  c13 : w.cell? ⟨p, 13, none⟩ = some (.int .i64 a0)
  c14 : w.cell? ⟨p, 14, none⟩ = some (.int .i64 a1)
  c15 : w.cell? ⟨p, 15, none⟩ = some (.int .i64 a2)
  c16 : w.cell? ⟨p, 16, none⟩ = some (.int .i64 a3)
  c17 : w.cell? ⟨p, 17, none⟩ = some (.int .i64 a4)
  c18 : w.cell? ⟨p, 18, none⟩ = some (.int .i64 a5)
  c21 : w.cell? ⟨p, 21, none⟩ = some (.int .i64 a6)
  c22 : w.cell? ⟨p, 22, none⟩ = some (.int .i64 a7)
  c23 : w.cell? ⟨p, 23, none⟩ = some (.int .i64 a8)
  c24 : w.cell? ⟨p, 24, none⟩ = some (.slice s n c)
  c25 : w.cell? ⟨p, 25, none⟩ = some (.bool al)

/-- ZZNewTableSamples: a pointer to such a block, nothing old turned. -/
theorem new_call (a0 a1 a2 a3 a4 a5 a6 a7 a8 : Int) (s : Option Addr) (n c : Nat) (al : Bool) (w : World) :
    Calls Try.prog 15 #[.int .i64 a0, .int .i64 a1, .int .i64 a2, .int .i64 a3, .int .i64 a4, .int .i64 a5, .int .i64 a6, .int .i64 a7, .int .i64 a8, .slice s n c, .bool al] w
      fun e w' => ∃ p, e = .returned (.pointer (some ⟨p, 0, none⟩)) ∧ TS p w' a0 a1 a2 a3 a4 a5 a6 a7 a8 s n c al ∧ Below w.heap.size w w' := by
  refine (newTable a0 a1 a2 a3 a4 a5 a6 a7 a8 s n c al w).mono ?_
  rintro e w' ⟨rfl, rfl⟩
  refine ⟨w.heap.size, rfl, ⟨?_, ?_, ?_, ?_, ?_, ?_, ?_, ?_, ?_, ?_, ?_⟩, (Below.refl _ _).alloc (Nat.le_refl _) _⟩
  iterate 11 exact World.cell?_alloc_at _ _ _ _ rfl

set_option maxHeartbeats 400000 in
theorem zzc_any (p : Nat) (a0 a1 a2 a3 a4 a5 a6 a7 a8 : Int) (s : Option Addr) (n c : Nat) (al : Bool) (w : World)
    (c13 : w.cell? ⟨p, 13, none⟩ = some (.int .i64 a0)) (c14 : w.cell? ⟨p, 14, none⟩ = some (.int .i64 a1)) (c15 : w.cell? ⟨p, 15, none⟩ = some (.int .i64 a2))
    (c16 : w.cell? ⟨p, 16, none⟩ = some (.int .i64 a3)) (c17 : w.cell? ⟨p, 17, none⟩ = some (.int .i64 a4)) (c18 : w.cell? ⟨p, 18, none⟩ = some (.int .i64 a5))
    (c21 : w.cell? ⟨p, 21, none⟩ = some (.int .i64 a6)) (c22 : w.cell? ⟨p, 22, none⟩ = some (.int .i64 a7)) (c23 : w.cell? ⟨p, 23, none⟩ = some (.int .i64 a8))
    (c24 : w.cell? ⟨p, 24, none⟩ = some (.slice s n c)) (c25 : w.cell? ⟨p, 25, none⟩ = some (.bool al)) :
    Calls Try.prog 14 #[.pointer (some ⟨p, 0, none⟩)] w fun e w' => ∃ v, e = .returned v ∧ CntPost w a0 a1 a2 a3 a4 a5 a6 a7 a8 s al (.returned v) w' := by
  have hc := (counters_any p a0 a1 a2 a3 a4 a5 a6 a7 a8 s n c al w c13 c14 c15 c16 c17 c18 c21 c22 c23 c24 c25).mono (R' := fun e w' => ∃ v, e = .returned v ∧ CntPost w a0 a1 a2 a3 a4 a5 a6 a7 a8 s al (.returned v) w') (by
    intro e w' h
    cases al
    · cases s
      · obtain ⟨g, cap, rfl, _⟩ := h.2.2 ⟨rfl, rfl⟩
        exact ⟨_, rfl, h⟩
      · obtain ⟨rfl, _⟩ := h.2.1 (Or.inr (by simp))
        exact ⟨_, rfl, h⟩
    · obtain ⟨rfl, _⟩ := h.2.1 (Or.inl rfl)
      exact ⟨_, rfl, h⟩)
  clear c13 c14 c15 c16 c17 c18 c21 c22 c23 c24 c25
  have H := Hid.out (p := Hid (Calls Try.prog 24 #[.pointer (some ⟨p, 0, none⟩)] w fun e w' => ∃ v, e = .returned v ∧ CntPost w a0 a1 a2 a3 a4 a5 a6 a7 a8 s al (.returned v) w')) hc
  clear hc
  go_enter Try.func14, Try.ntmps14
  go_wp2_with fail
  refine (H.out).mono ?_
  rintro e w' ⟨v, rfl, hv⟩
  clear H
  have HV : Hid (CntPost w a0 a1 a2 a3 a4 a5 a6 a7 a8 s al (.returned v) w') := hv
  clear hv
  go_wp2
  go_ret
  exact ⟨_, rfl, HV.out⟩

theorem row8_of {g n cap : Nat} {base : Nat} {w : World} {a0 a1 a2 a3 a4 a5 : Int} {r : List Value} (h : w.ownsRow base 45 4 (.slice (some ⟨g, 0, none⟩) n cap) n (two a0 a1 a2 a3 a4 a5 ++ r)) (hn : 2 ≤ n) : Row8 g w a0 a1 a2 a3 a4 a5 := by
  have hc : ∀ j, j < 8 → w.cell? ⟨g, j, none⟩ = (two a0 a1 a2 a3 a4 a5)[j]? := fun j hj => by
    rw [h.cellAt j (by omega), List.getElem?_append_left (by simp [two]; omega)]
  exact ⟨hc 0 (by omega), hc 1 (by omega), hc 2 (by omega), hc 3 (by omega), hc 4 (by omega), hc 5 (by omega), hc 6 (by omega), hc 7 (by omega)⟩

theorem row4_of {g cap : Nat} {base : Nat} {w : World} {a0 a1 a2 a3 a4 a5 a6 a7 a8 : Int} (h : w.ownsRow base 45 4 (.slice (some ⟨g, 0, none⟩) 3 cap) 3 (two a0 a1 a2 a3 a4 a5 ++ [.int .i64 a6, .int .i64 a7, .int .i64 a8, .int .i64 4])) : Row4 g w a6 a7 a8 :=
  ⟨h.cellAt 8 (by omega), h.cellAt 9 (by omega), h.cellAt 10 (by omega), h.cellAt 11 (by omega)⟩

theorem cap_of {g cap : Nat} {base : Nat} {w : World} {xs : List Value} (h : w.ownsRow base 45 4 (.slice (some ⟨g, 0, none⟩) 3 cap) 3 xs) : 3 ≤ cap := by
  rcases h.2 with ⟨h', _⟩ | ⟨g', cap', cur, h', _, _, hnc, _⟩
  · simp at h'
  · simp only [Value.slice.injEq, Option.some.injEq, Addr.mk.injEq, and_true, true_and] at h'
    obtain ⟨rfl, rfl⟩ := h'
    exact hnc

/-- Two tables: the flag is set, or the list is not nil. -/
theorem two_call {a0 a1 a2 a3 a4 a5 a6 a7 a8 : Int} {s : Option Addr} {n c : Nat} {al : Bool} {p : Nat} {w : World} (hT : TS p w a0 a1 a2 a3 a4 a5 a6 a7 a8 s n c al) (h : al = true ∨ s ≠ none) :
    Calls Try.prog 14 #[.pointer (some ⟨p, 0, none⟩)] w fun e w' =>
      ∃ g, e = .returned (.slice (some ⟨g, 0, none⟩) 2 2) ∧ Row8 g w' a0 a1 a2 a3 a4 a5 ∧ Below w.heap.size w w' := by
  refine (zzc_any p a0 a1 a2 a3 a4 a5 a6 a7 a8 s n c al w hT.c13 hT.c14 hT.c15 hT.c16 hT.c17 hT.c18 hT.c21 hT.c22 hT.c23 hT.c24 hT.c25).mono ?_
  rintro e w' ⟨v, rfl, hb, h2, _⟩
  obtain ⟨he, hown⟩ := h2 h
  exact ⟨_, he, row8_of (r := []) (by simpa using hown) (by omega), hb⟩

/-- Three tables. -/
theorem three_call {a0 a1 a2 a3 a4 a5 a6 a7 a8 : Int} {n c : Nat} {p : Nat} {w : World} (hT : TS p w a0 a1 a2 a3 a4 a5 a6 a7 a8 none n c false) :
    Calls Try.prog 14 #[.pointer (some ⟨p, 0, none⟩)] w fun e w' =>
      ∃ g cap, e = .returned (.slice (some ⟨g, 0, none⟩) 3 cap) ∧ Row8 g w' a0 a1 a2 a3 a4 a5 ∧ Row4 g w' a6 a7 a8 ∧ 3 ≤ cap ∧ Below w.heap.size w w' := by
  refine (zzc_any p a0 a1 a2 a3 a4 a5 a6 a7 a8 none n c false w hT.c13 hT.c14 hT.c15 hT.c16 hT.c17 hT.c18 hT.c21 hT.c22 hT.c23 hT.c24 hT.c25).mono ?_
  rintro e w' ⟨v, rfl, hb, _, h3⟩
  obtain ⟨g, cap, he, hown⟩ := h3 ⟨rfl, rfl⟩
  exact ⟨g, cap, he, row8_of hown (by omega), row4_of hown, cap_of hown, hb⟩

theorem same_call {g1 c1 g2 c2 : Nat} {a0 a1 a2 a3 a4 a5 : Int} {w : World} (h1 : Row8 g1 w a0 a1 a2 a3 a4 a5) (h2 : Row8 g2 w a0 a1 a2 a3 a4 a5) :
    Calls Try.prog 16 #[.slice (some ⟨g1, 0, none⟩) 2 c1, .slice (some ⟨g2, 0, none⟩) 2 c2] w fun e w' => e = .returned (.bool true) ∧ ∃ n, w' = w.drewN n :=
  same_any g1 c1 g2 c2 a0 a1 a2 a2 a3 a4 a5 4 w h1.x0 h1.x1 h1.x2 h1.x3 h1.x4 h1.x5 h1.x6 h1.x7 h2.x0 h2.x1 h2.x2 h2.x3 h2.x4 h2.x5 h2.x6 h2.x7
end Go.Proofs.Qxb6603994a
