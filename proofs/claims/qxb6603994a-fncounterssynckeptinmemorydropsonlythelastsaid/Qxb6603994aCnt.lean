/-
  THE CONTRACTS OF ZZNewTableSamples (15), counters (24), sameCounters (16).
-/
import Derived.Test.Qxb6603994aClone
import Derived.Deep.RegionHeldLaw
import Derived.Deep.AppendLies
import Derived.Deep.QuietTactic
import Derived.BigQuiet
namespace Go.Proofs.Qxb6603994a
open Go.RowKit

theorem newTable (a0 a1 a2 a3 a4 a5 a6 a7 a8 : Int) (s : Option Addr) (n c : Nat) (al : Bool) (w : World) :
    Calls Try.prog 15 #[.int .i64 a0, .int .i64 a1, .int .i64 a2, .int .i64 a3, .int .i64 a4, .int .i64 a5, .int .i64 a6, .int .i64 a7, .int .i64 a8, .slice s n c, .bool al] w
      fun e w' => e = .returned (.pointer (some ⟨w.heap.size, 0, none⟩)) ∧ w' = w.alloc (.cells #[.int .u8 0, .int .u8 0, .int .u8 0, .int .u8 0, .int .i64 0, .int .i64 0, .int .i64 0, .int .u32 0, .int .u32 0, .int .i64 0, .int .i64 0, .int .i64 0, .int .i64 0, .int .i64 a0, .int .i64 a1, .int .i64 a2, .int .i64 a3, .int .i64 a4, .int .i64 a5, .int .u32 0, .int .i64 0, .int .i64 a6, .int .i64 a7, .int .i64 a8, .slice s n c, .bool al] 62) := by
  go_enter Try.func15, Try.ntmps15
  go_wp2
  go_ret
  exact ⟨rfl, rfl⟩

theorem Try.info45 : (Try.prog.info? 45).map (fun i => (i.zero, i.size, i.bytes)) = some (some (.agg #[.int .i64 0, .int .i64 0, .int .i64 0, .int .i64 0]), 4, 32) := by kernel_rfl

theorem ownsRow_heap {w W : World} {base : Nat} {e : TypeId} {size : Nat} {v : Value} {n : Nat} {xs : List Value} (h : w.ownsRow base e size v n xs) (hh : W.heap = w.heap) : W.ownsRow base e size v n xs := by
  obtain ⟨h1, h2⟩ := h
  refine ⟨h1, ?_⟩
  rcases h2 with h2 | ⟨g, cap, cur, hv, hg, hb, r⟩
  · exact Or.inl h2
  · exact Or.inr ⟨g, cap, cur, hv, hg, by rw [hh]; exact hb, r⟩

/-- The two tables that every answer of counters begins with. -/
def two (a0 a1 a2 a3 a4 a5 : Int) : List Value := [.int .i64 a0, .int .i64 a1, .int .i64 a2, .int .i64 a2, .int .i64 a3, .int .i64 a4, .int .i64 a5, .int .i64 4]

/-- What counters leaves: two tables in a new row; or three, where neither the flag nor the list is set. -/
def CntPost (w : World) (a0 a1 a2 a3 a4 a5 a6 a7 a8 : Int) (s : Option Addr) (al : Bool) (e : Ending) (w' : World) : Prop := Below w.heap.size w w' ∧
  ((al = true ∨ s ≠ none) → e = .returned (.slice (some ⟨w.heap.size, 0, none⟩) 2 2) ∧ w'.ownsRow w.heap.size 45 4 (.slice (some ⟨w.heap.size, 0, none⟩) 2 2) 2 (two a0 a1 a2 a3 a4 a5)) ∧
  ((al = false ∧ s = none) → ∃ g cap, e = .returned (.slice (some ⟨g, 0, none⟩) 3 cap) ∧ w'.ownsRow w.heap.size 45 4 (.slice (some ⟨g, 0, none⟩) 3 cap) 3 (two a0 a1 a2 a3 a4 a5 ++ [.int .i64 a6, .int .i64 a7, .int .i64 a8, .int .i64 4]))

theorem own_two (w : World) (a0 a1 a2 a3 a4 a5 : Int) : (w.alloc (.cells #[.int .i64 a0, .int .i64 a1, .int .i64 a2, .int .i64 a2, .int .i64 a3, .int .i64 a4, .int .i64 a5, .int .i64 4] 45)).ownsRow w.heap.size 45 4 (.slice (some ⟨w.heap.size, 0, none⟩) 2 2) 2 (two a0 a1 a2 a3 a4 a5) :=
  World.ownsRow_lit w _ 2 (Nat.le_refl _) (by unfold maxLen; omega) rfl

theorem cnt_two (w : World) (a0 a1 a2 a3 a4 a5 a6 a7 a8 : Int) (s : Option Addr) (al : Bool) (h : al = true ∨ s ≠ none) :
    CntPost w a0 a1 a2 a3 a4 a5 a6 a7 a8 s al (.returned (.slice (some ⟨w.heap.size, 0, none⟩) 2 2)) (w.alloc (.cells #[.int .i64 a0, .int .i64 a1, .int .i64 a2, .int .i64 a2, .int .i64 a3, .int .i64 a4, .int .i64 a5, .int .i64 4] 45)).drew := by
  refine ⟨((Below.refl _ _).alloc (Nat.le_refl _) _).drew, fun _ => ⟨rfl, ownsRow_heap (own_two w a0 a1 a2 a3 a4 a5) rfl⟩, ?_⟩
  rintro ⟨rfl, rfl⟩
  simp at h

theorem cnt_three (w w1 : World) (a0 a1 a2 a3 a4 a5 a6 a7 a8 : Int) (o1 o2 : Obj) (W : World) (hW : W.heap = ((w.alloc o1).alloc o2).heap) (hos : W.os = w.os) (htp : W.tape = w.tape) (hout : W.output = w.output) (g cap : Nat)
    (hown : w1.ownsRow w.heap.size 45 4 (.slice (some ⟨g, 0, none⟩) (2 + 1) cap) (2 + 1) (two a0 a1 a2 a3 a4 a5 ++ [.int .i64 a6, .int .i64 a7, .int .i64 a8, .int .i64 4])) (hgrow : W.grownBy w1 (some w.heap.size)) :
    CntPost w a0 a1 a2 a3 a4 a5 a6 a7 a8 none false (.returned (.slice (some ⟨g, 0, none⟩) 3 cap)) w1 := by
  have hb : Below w.heap.size w W := by
    have hb2 : Below w.heap.size w ((w.alloc o1).alloc o2) := ((Below.refl _ _).alloc (Nat.le_refl _) _).alloc (by simp) _
    exact ⟨hos, htp, hout, by rw [hW]; exact hb2.size, fun k hk => by rw [hW]; exact hb2.block k hk⟩
  refine ⟨hb.grown hgrow (by rw [hW]; simp; omega) (fun k hk => by cases hk; exact Nat.le_refl _), ?_, fun _ => ⟨g, cap, rfl, hown⟩⟩
  intro h
  simp at h

theorem news_four (w : World) (o : Obj) (a6 a7 a8 : Int) (W : World) (hW : W.heap = ((w.alloc o).alloc (.cells #[.int .i64 a6, .int .i64 a7, .int .i64 a8, .int .i64 4] 45)).heap) :
    ∀ j u, ([.int .i64 a6, .int .i64 a7, .int .i64 a8, .int .i64 4] : List Value)[j]? = some u → W.cell? ((⟨w.heap.size + 1, 0, none⟩ : Addr).add j) = some u := by
  refine World.news_of_block (cs := #[.int .i64 a6, .int .i64 a7, .int .i64 a8, .int .i64 4]) (t := 45) (fr := (0, 0)) ?_
  rw [hW]
  simpa using heap_alloc_new (w.alloc o) (.cells #[.int .i64 a6, .int .i64 a7, .int .i64 a8, .int .i64 4] 45)
theorem ones_four (a6 a7 a8 : Int) : ∀ u ∈ ([.int .i64 a6, .int .i64 a7, .int .i64 a8, .int .i64 4] : List Value), u.oneCell' = true := by
  intro u hu
  simp at hu
  rcases hu with rfl | rfl | rfl | rfl <;> rfl
theorem keep_three {w w1 W : World} {o1 o2 : Obj} {p : Nat} {a6 a7 a8 : Value} (hp : p < w.heap.size) (c21 : w.cell? ⟨p, 21, none⟩ = some a6) (c22 : w.cell? ⟨p, 22, none⟩ = some a7) (c23 : w.cell? ⟨p, 23, none⟩ = some a8)
    (hgrow : W.grownBy w1 (some w.heap.size)) (hW : W.heap = ((w.alloc o1).alloc o2).heap) : w1.cell? ⟨p, 21, none⟩ = some a6 ∧ w1.cell? ⟨p, 22, none⟩ = some a7 ∧ w1.cell? ⟨p, 23, none⟩ = some a8 := by
  have hk : ∀ o, w1.cell? ⟨p, o, none⟩ = w.cell? ⟨p, o, none⟩ := by
    intro o
    rw [hgrow.cell_far ⟨p, o, none⟩ (by rw [hW]; simp; omega) (by simp; omega)]
    refine World.cell?_of_block (w := w) ?_
    rw [hW]
    have hb2 : Below w.heap.size w ((w.alloc o1).alloc o2) := ((Below.refl _ _).alloc (Nat.le_refl _) _).alloc (by simp) _
    exact hb2.block p hp
  exact ⟨(hk 21).trans c21, (hk 22).trans c22, (hk 23).trans c23⟩

theorem append_step {ops : Array Oper} {o : Oper} {a : Act} {K : Act → World → Prop} {Q : Exit → Act → World → Prop} {E : Prop} (w W : World) (a0 a1 a2 a3 a4 a5 a6 a7 a8 : Int) (p : Nat) (i0 : TypeInfo)
    (H0 : Hid (i0.zero = some (.agg #[.int .i64 0, .int .i64 0, .int .i64 0, .int .i64 0]) ∧ i0.size = 4 ∧ i0.bytes = 32 ∧ Try.prog.info? 45 = some i0))
    (hgd : o.guard = none) (ho : o.op = .call { callee := .builtin .append, args := #[.tmp 54, .tmp 71], argTypes := #[39, 39] })
    (hs : a.eval (.tmp 54) = .slice (some ⟨w.heap.size, 0, none⟩) 2 2) (hx : a.eval (.tmp 71) = .slice (some ⟨w.heap.size + 1, 0, none⟩) 1 1)
    (hW : W.heap = ((w.alloc (.cells #[.int .i64 a0, .int .i64 a1, .int .i64 a2, .int .i64 a2, .int .i64 a3, .int .i64 a4, .int .i64 a5, .int .i64 4] 45)).alloc (.cells #[.int .i64 a6, .int .i64 a7, .int .i64 a8, .int .i64 4] 45)).heap)
    (hos : W.os = w.os) (htp : W.tape = w.tape) (hout : W.output = w.output) (hp : p < w.heap.size)
    (c21 : w.cell? ⟨p, 21, none⟩ = some (.int .i64 a6)) (c22 : w.cell? ⟨p, 22, none⟩ = some (.int .i64 a7)) (c23 : w.cell? ⟨p, 23, none⟩ = some (.int .i64 a8))
    (h : ∀ g cap w1, CntPost w a0 a1 a2 a3 a4 a5 a6 a7 a8 none false (.returned (.slice (some ⟨g, 0, none⟩) 3 cap)) w1 → w1.cell? ⟨p, 21, none⟩ = some (.int .i64 a6) → w1.cell? ⟨p, 22, none⟩ = some (.int .i64 a7) → w1.cell? ⟨p, 23, none⟩ = some (.int .i64 a8) → K (a.put o.dst (.slice (some ⟨g, 0, none⟩) 3 cap)) w1) :
    if Region.wanted o (yielded ops a.tmps) = true then Oper.wp Try.prog o a W K Q else E := by
  refine step_append_lies W hgd (.tmp 54) (.tmp 71) 39 ho w.heap.size 45 i0 (.agg #[.int .i64 0, .int .i64 0, .int .i64 0, .int .i64 0]) 4 32 Try.underlying39 H0.out.2.2.2 H0.out.1 H0.out.2.1 H0.out.2.2.1 rfl (by decide) (.slice (some ⟨w.heap.size, 0, none⟩) 2 2) 2 (two a0 a1 a2 a3 a4 a5) hs
    (ownsRow_heap ((own_two w a0 a1 a2 a3 a4 a5).alloc (.cells #[.int .i64 a6, .int .i64 a7, .int .i64 a8, .int .i64 4] 45)) hW) ⟨w.heap.size + 1, 0, none⟩ 1 1 [.int .i64 a6, .int .i64 a7, .int .i64 a8, .int .i64 4] hx rfl (news_four w _ a6 a7 a8 W hW) (ones_four a6 a7 a8) (by decide) (by unfold maxLen; omega) (by omega) (by rw [hW]; simp; omega) _ rfl ?_
  intro g cap w1 hown hgrow _ _
  obtain ⟨k21, k22, k23⟩ := keep_three hp c21 c22 c23 hgrow hW
  exact h g cap w1 (cnt_three w w1 a0 a1 a2 a3 a4 a5 a6 a7 a8 _ _ W hW hos htp hout g cap hown hgrow) k21 k22 k23

set_option maxHeartbeats 2000000 in
theorem counters_any (p : Nat) (a0 a1 a2 a3 a4 a5 a6 a7 a8 : Int) (s : Option Addr) (n c : Nat) (al : Bool) (w : World)
    (c13 : w.cell? ⟨p, 13, none⟩ = some (.int .i64 a0)) (c14 : w.cell? ⟨p, 14, none⟩ = some (.int .i64 a1)) (c15 : w.cell? ⟨p, 15, none⟩ = some (.int .i64 a2))
    (c16 : w.cell? ⟨p, 16, none⟩ = some (.int .i64 a3)) (c17 : w.cell? ⟨p, 17, none⟩ = some (.int .i64 a4)) (c18 : w.cell? ⟨p, 18, none⟩ = some (.int .i64 a5))
    (c21 : w.cell? ⟨p, 21, none⟩ = some (.int .i64 a6)) (c22 : w.cell? ⟨p, 22, none⟩ = some (.int .i64 a7)) (c23 : w.cell? ⟨p, 23, none⟩ = some (.int .i64 a8))
    (c24 : w.cell? ⟨p, 24, none⟩ = some (.slice s n c)) (c25 : w.cell? ⟨p, 25, none⟩ = some (.bool al)) :
    Calls Try.prog 24 #[.pointer (some ⟨p, 0, none⟩)] w fun e w' => CntPost w a0 a1 a2 a3 a4 a5 a6 a7 a8 s al e w' := by
  have hq := fun (w : World) (a : Option Addr) (n c n' c' : Nat) => Lib.run_eql_slice_nil (P := Try.prog) w 36 55 a n c n' c' Try.underlying36
  have hp : p < w.heap.size := World.block_lt_of_cell? w _ c13
  obtain ⟨i0, hi, hz0, hz1, hz2⟩ := info_parts Try.info45
  have H0 : Hid (i0.zero = some (.agg #[.int .i64 0, .int .i64 0, .int .i64 0, .int .i64 0]) ∧ i0.size = 4 ∧ i0.bytes = 32 ∧ Try.prog.info? 45 = some i0) := ⟨hz0, hz1, hz2, hi⟩
  clear hi hz0 hz1 hz2
  go_enter Try.func24, Try.ntmps24
  go_wp2
  go_region_held (fun w' => w'.cell? ⟨p, 13, none⟩ = some (.int .i64 a0) ∧ w'.cell? ⟨p, 14, none⟩ = some (.int .i64 a1) ∧ w'.cell? ⟨p, 15, none⟩ = some (.int .i64 a2) ∧ w'.cell? ⟨p, 16, none⟩ = some (.int .i64 a3) ∧ w'.cell? ⟨p, 17, none⟩ = some (.int .i64 a4) ∧ w'.cell? ⟨p, 18, none⟩ = some (.int .i64 a5)) (go_keep) (fail)
  clear c13 c14 c15 c16 c17 c18
  rename_i hHeld
  clear hHeld
  cases al
  · cases s
    · go_wp2
      go_region_held_law (fun w' => w'.cell? ⟨p, 21, none⟩ = some (.int .i64 a6) ∧ w'.cell? ⟨p, 22, none⟩ = some (.int .i64 a7) ∧ w'.cell? ⟨p, 23, none⟩ = some (.int .i64 a8)) (first | go_keep | exact ⟨k21, k22, k23⟩)
        (first | (refine append_step w _ a0 a1 a2 a3 a4 a5 a6 a7 a8 p i0 H0 rfl rfl rfl rfl rfl rfl rfl rfl hp c21 c22 c23 ?_; intro g cap w1 hF k21 k22 k23))
      go_wp2
      go_ret
      exact hF
    · go_wp2
      go_ret
      exact cnt_two w a0 a1 a2 a3 a4 a5 a6 a7 a8 _ _ (Or.inr (by simp))
  · go_wp2
    go_ret
    exact cnt_two w a0 a1 a2 a3 a4 a5 a6 a7 a8 _ _ (Or.inl rfl)
end Go.Proofs.Qxb6603994a
