/-
  THE PROOF OF 'Rows.FnHeldExactSaid': the frame after the seat's shell; the walks out of Qxb6603994aExact, Exact2, Exact3.
-/
import Derived.Test.Qxb6603994aRows
import Derived.Test.Qxb6603994aExact2
import Derived.Test.Qxb6603994aExact3
import Derived.Test.Qxb6603994aOpenRow
import Derived.WalkKit
import Derived.ProofKit
import Derived.OpenShut
import Derived.ShutString
import Derived.ChangeOld
import Derived.Below
namespace Go.Proofs.Qxb6603994a.fnHeldExact
open Go.ChangeShapes Go.WideShapes Go.ChangeAt Go.RowKit
open Go.ChangeMaps (open_string shut_string)
set_option linter.unusedVariables false

theorem own : ownKnob Try.prog.godebug = none := by kernel_rfl
theorem laidOut : laidOutB Try.prog = true := by kernel_rfl

/-- Entry K of n entries of W bytes lies within the buffer. -/
theorem tile_bounds (len W K : Nat) (n : Int) (hW : 0 < W) (hK : (K : Int) < n) (hn : n ≤ (len : Int) / W) : (K : Int) * (W : Int) = ((K * W : Nat) : Int) ∧ ((K : Int) + 1) * (W : Int) = ((K * W : Nat) : Int) + W ∧ K * W + W ≤ len := by
  have h1 : (K : Int) + 1 ≤ (len : Int) / W := by omega
  have h2 : ((K : Int) + 1) * W ≤ len := (Int.le_ediv_iff_mul_le (by omega)).1 h1
  have e : ((K : Int) + 1) * (W : Int) = ((K * W : Nat) : Int) + W := by rw [Int.add_mul, Int.one_mul, Int.natCast_mul]
  exact ⟨by rw [Int.natCast_mul], e, by omega⟩

/-! ### STEP 1: THE WALK: the Go text returns true, AND WRITES NOTHING THAT WAS THERE: 'Below w.heap.size w w'' (Derived/Below.lean: '.refl', '.alloc', '.drew', '.setCell' at a new block, '.trans'). Open each 'IsRow' by 'rcases' AHEAD of 'go_enter'; part every test ahead of the walk. -/
theorem walk (a0 : Option Addr) (len0 cap0 : Nat) (z0 : List Int) (a1 : Int) (a2 : Int) (a3 : Int) (a4 : Int) (a5 : Int) (a6 : Int) (a7 : Int) (w : World) (w0 : IsRow .u8 w a0 len0 cap0 z0) (w1 : (Lit.int .i64 a1).wf = true) (w2 : (Lit.int .i64 a2).wf = true) (w3 : (Lit.int .i64 a3).wf = true) (w4 : (Lit.int .i64 a4).wf = true) (w5 : (Lit.int .i64 a5).wf = true) (w6 : (Lit.int .i64 a6).wf = true) (w7 : (Lit.int .i64 a7).wf = true) :
    Calls Try.prog 5 #[.slice a0 len0 cap0, .int .i64 a1, .int .i64 a2, .int .i64 a3, .int .i64 a4, .int .i64 a5, .int .i64 a6, .int .i64 a7] w fun e w' => e = .returned (.bool true) ∧ Below w.heap.size w w' := by
  obtain ⟨b20, b21⟩ := bounds_i64 w2
  obtain ⟨b30, b31⟩ := bounds_i64 w3
  obtain ⟨b70, b71⟩ := bounds_i64 w7
  by_cases h1 : len0 ≤ 1048576
  · by_cases c6 : a6 < 0
    · exact he_early a0 len0 cap0 a1 a2 a3 a4 a5 a6 a7 w h1 b31 (.inl c6)
    by_cases c3 : a3 < 0
    · exact he_early a0 len0 cap0 a1 a2 a3 a4 a5 a6 a7 w h1 b31 (.inr (.inl ⟨by omega, c3⟩))
    by_cases c2 : a2 < 0
    · exact he_early a0 len0 cap0 a1 a2 a3 a4 a5 a6 a7 w h1 b31 (.inr (.inr (.inl ⟨by omega, by omega, c2⟩)))
    by_cases cs : 9223372036854775807 - a3 < a2
    · exact he_early a0 len0 cap0 a1 a2 a3 a4 a5 a6 a7 w h1 b31 (.inr (.inr (.inr (.inl ⟨by omega, by omega, by omega, cs⟩))))
    by_cases cq : 0 < a6 ∧ (len0 : Int) / a6 < a3
    · obtain ⟨cq0, cq1⟩ := cq
      have hq := quo_bounds len0 a6 h1 cq0
      exact he_early a0 len0 cap0 a1 a2 a3 a4 a5 a6 a7 w h1 b31 (.inr (.inr (.inr (.inr ⟨cq0, by omega, by omega, by omega, hq.1, hq.2, cq1⟩))))
    have hwin : ((a1 == a4) = false ∨ ((a1 == a4) = true ∧ decide (a2 ≤ a7) = false) ∨ ((a1 == a4) = true ∧ a2 ≤ a7 ∧ decide (a7 - a2 < a3) = false)) ∨ (a1 = a4 ∧ a2 ≤ a7 ∧ a7 - a2 < a3) := by
      by_cases x1 : a1 = a4
      · by_cases x2 : a2 ≤ a7
        · by_cases x3 : a7 - a2 < a3
          · exact .inr ⟨x1, x2, x3⟩
          · exact .inl (.inr (.inr ⟨by simp [x1], x2, decide_eq_false x3⟩))
        · exact .inl (.inr (.inl ⟨by simp [x1], decide_eq_false x2⟩))
      · exact .inl (.inl (by simp [x1]))
    rcases isRow_open w0 with ⟨rfl, rfl, rfl⟩ | ⟨b, off, sp, rfl, hsp, hc⟩
    · have h6 : a6 = 0 ∨ (0 < a6 ∧ a3 ≤ 0) := by
        rcases Int.lt_or_eq_of_le (Int.not_lt.1 c6) with h | h
        · refine .inr ⟨h, ?_⟩
          have : ¬ ((0 : Nat) : Int) / a6 < a3 := fun hh => cq ⟨h, hh⟩
          simp at this
          omega
        · exact .inl h.symm
      rcases hwin with hout | ⟨rfl, x2, x3⟩
      · exact he_out_nil a1 a2 a3 a4 a5 a6 a7 w h6 (by omega) (by omega) (by omega) b70 b71 hout
      · obtain rfl : a6 = 0 := by omega
        exact he_in_nil a1 a2 a3 a5 a7 w (by omega) (by omega) (by omega) b71 x2 x3
    · have h6 : a6 = 0 ∨ (0 < a6 ∧ 0 ≤ (len0 : Int) / a6 ∧ (len0 : Int) / a6 ≤ 1048576 ∧ a3 ≤ (len0 : Int) / a6) := by
        rcases Int.lt_or_eq_of_le (Int.not_lt.1 c6) with h | h
        · have hq := quo_bounds len0 a6 h1 h
          exact .inr ⟨h, hq.1, hq.2, Int.not_lt.1 fun hh => cq ⟨h, hh⟩⟩
        · exact .inl h.symm
      rcases hwin with hout | ⟨rfl, x2, x3⟩
      · exact he_out_some b off sp len0 cap0 z0 a1 a2 a3 a4 a5 a6 a7 w h6 h1 hsp hc (by omega) (by omega) (by omega) b70 b71 hout
      · rcases h6 with rfl | ⟨h, hq0, hq1, hq2⟩
        · exact he_in_zero b off sp len0 cap0 z0 a1 a2 a3 a5 a7 w h1 hsp hc (by omega) (by omega) (by omega) b71 x2 x3
        · obtain ⟨W, rfl⟩ := Int.eq_ofNat_of_zero_le (Int.le_of_lt h)
          obtain ⟨K, hK⟩ := Int.eq_ofNat_of_zero_le (show 0 ≤ a7 - a2 by omega)
          obtain ⟨e1, e2, e3⟩ := tile_bounds len0 W K a3 (by omega) (by omega) hq2
          exact he_in_pos b off sp len0 cap0 z0 a1 a2 a3 a5 a7 W (K * W) w h1 hsp hc (by omega) (by omega) (by omega) b71 x2 x3 (by omega) hq0 hq1 hq2 (by rw [hK]; exact e1) (by rw [hK]; exact e2) e3
  · exact he_long a0 len0 cap0 a1 a2 a3 a4 a5 a6 a7 w (by omega)

/-! ### THE ROW's STEP: WRITTEN OUT: LEAVE IT -/
set_option maxRecDepth 100000 in
theorem lifted (os : Os) (started : os.Started) (H : Type) (enc : TypeId × Value → H) :
    ReturnsInHanded {} Try.checked os 5 .any (Rows.fnHeldExactSpec.pre6 enc Try.prog Try.f5 Rows.fnHeldExactRow.domain false) (Rows.fnHeldExactSpec.post enc Try.prog Try.f5 false true false false) := by
  refine returnsInHanded_of_change (C := Try.checked) own started (by kernel_rfl) Try.func5
    (ChangeSpec.witness6 (enc := enc) (C := Try.checked) false ⟨#[], #[.slice none 0 0, .int .i64 0, .int .i64 0, .int .i64 0, .int .i64 0, .int .i64 0, .int .i64 0, .int .i64 0], []⟩ 8 (by kernel_rfl) (by kernel_rfl) (by kernel_rfl) (by kernel_rfl)) ?_
  intro W base args ds gs before hval0 hW hcnd _
  have hval : ∀ (j : Nat) t v, Try.f5.params[j]? = some t → args[j]? = some v → Value.okWide Try.prog W .any base t v := hval0
  have hW' := hW
  obtain ⟨p, q, hA0, hV, rfl, hfz, hnd⟩ := hW
  have hA : DataW.TrodAll enc Try.prog W 0 (fun _ => true) true Try.f5.params.toList args.toList ds p := hA0
  rw [Try.params5] at hA hval
  obtain ⟨v0, vs0, d0, ds0, p0, q0, hargs, rfl, rfl, h0, r0⟩ := trodAll_cons hA
  obtain ⟨v1, vs1, d1, ds1, p1, q1, rfl, rfl, rfl, h1, r1⟩ := trodAll_cons r0
  obtain ⟨v2, vs2, d2, ds2, p2, q2, rfl, rfl, rfl, h2, r2⟩ := trodAll_cons r1
  obtain ⟨v3, vs3, d3, ds3, p3, q3, rfl, rfl, rfl, h3, r3⟩ := trodAll_cons r2
  obtain ⟨v4, vs4, d4, ds4, p4, q4, rfl, rfl, rfl, h4, r4⟩ := trodAll_cons r3
  obtain ⟨v5, vs5, d5, ds5, p5, q5, rfl, rfl, rfl, h5, r5⟩ := trodAll_cons r4
  obtain ⟨v6, vs6, d6, ds6, p6, q6, rfl, rfl, rfl, h6, r6⟩ := trodAll_cons r5
  obtain ⟨v7, vs7, d7, ds7, p7, q7, rfl, rfl, rfl, h7, r7⟩ := trodAll_cons r6
  obtain ⟨rfl, rfl, rfl⟩ := trodAll_nil r7
  obtain rfl : args = #[v0, v1, v2, v3, v4, v5, v6, v7] := by cases args; simp_all
  obtain ⟨rfl, rfl⟩ := trodVars_none hV
  obtain ⟨a0, len0, cap0, rfl⟩ := okWide_slice Try.underlying46 (hval 0 46 v0 rfl rfl)
  have k0 := h0
  have lt0 : ∀ x ∈ p0, x.block < W.heap.size := by obtain ⟨m, hm⟩ := k0; exact DataW.trod_lt m _ _ _ hm
  obtain ⟨z0, w0⟩ : ∃ zs, IsRow .u8 W a0 len0 cap0 zs := by
    obtain ⟨fuel, hf⟩ := h0
    rcases open_ints Try.underlying46 Try.underlying5 (by kernel_rfl) hf with ⟨hcs, _⟩ | ⟨x, l, c, zs, hcs, _, hl, hm, hz, _, hcell, hwz⟩
    · simp [Value.cells] at hcs
      obtain ⟨rfl, rfl, rfl⟩ := hcs
      exact ⟨[], .inl ⟨rfl, rfl, rfl, rfl⟩⟩
    · simp [Value.cells] at hcs
      obtain ⟨rfl, rfl, rfl⟩ := hcs
      exact ⟨zs, .inr ⟨_, rfl, hl, hm, by simpa using hz, hcell, hwz⟩⟩
  obtain ⟨a1, rfl, rfl, rfl, w1⟩ := open_int Try.underlying2 (hval 1 2 v1 rfl rfl) h1
  obtain ⟨a2, rfl, rfl, rfl, w2⟩ := open_int Try.underlying3 (hval 2 3 v2 rfl rfl) h2
  obtain ⟨a3, rfl, rfl, rfl, w3⟩ := open_int Try.underlying3 (hval 3 3 v3 rfl rfl) h3
  obtain ⟨a4, rfl, rfl, rfl, w4⟩ := open_int Try.underlying2 (hval 4 2 v4 rfl rfl) h4
  obtain ⟨a5, rfl, rfl, rfl, w5⟩ := open_int Try.underlying3 (hval 5 3 v5 rfl rfl) h5
  obtain ⟨a6, rfl, rfl, rfl, w6⟩ := open_int Try.underlying3 (hval 6 3 v6 rfl rfl) h6
  obtain ⟨a7, rfl, rfl, rfl, w7⟩ := open_int Try.underlying3 (hval 7 3 v7 rfl rfl) h7
  clear hA0 hval0
  refine (walk a0 len0 cap0 z0 a1 a2 a3 a4 a5 a6 a7 W w0 w1 w2 w3 w4 w5 w6 w7).mono fun e W' ⟨he, bel⟩ => ?_
  subst he
  exact ⟨_, rfl, _, _, _, [], _, [], hW', trodAll_mk1 (shut_bool Try.underlying4 _), (trodAll_cons_mk (Below.trod laidOut (by kernel_rfl) (of_decide_eq_true (by kernel_rfl)) k0 bel lt0) (trodAll_cons_mk (shut_int Try.underlying2 w1) (trodAll_cons_mk (shut_int Try.underlying3 w2) (trodAll_cons_mk (shut_int Try.underlying3 w3) (trodAll_cons_mk (shut_int Try.underlying2 w4) (trodAll_cons_mk (shut_int Try.underlying3 w5) (trodAll_cons_mk (shut_int Try.underlying3 w6) (trodAll_cons_mk (shut_int Try.underlying3 w7) trodAll_mk0)))))))), rfl, bel.frame _, fun h => by cases h⟩

theorem over : Rows.fnHeldExactRow.holds Try.pinned (OpenSpec.ofChange Rows.fnHeldExactSpec) :=
  OpenClaim.holds_of_wide 5 Try.f5 rfl rfl rfl rfl rfl rfl rfl ⟨rfl, rfl, rfl, rfl, rfl⟩ rfl rfl rfl rfl rfl (by kernel_rfl) Try.func5 (by kernel_rfl)
    (of_decide_eq_true (by kernel_rfl)) (by unfold Func.isWrapper; first | (rw [if_pos (by decide +kernel)]; kernel_rfl) | (rw [if_neg (by decide +kernel)]; exact ⟨rfl, rfl⟩))
    (fun os started H enc _ => lifted os started H enc)

/-- ████ THE STATEMENT ████ -/
theorem proved : Rows.FnHeldExactSaid := over
#print axioms proved
end Go.Proofs.Qxb6603994a.fnHeldExact
