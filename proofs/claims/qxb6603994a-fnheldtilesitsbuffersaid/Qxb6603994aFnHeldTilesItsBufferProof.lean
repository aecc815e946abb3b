/-
  THE PROOF OF 'Rows.FnHeldTilesItsBufferSaid': the frame after the seat's shell; the walks out of Qxb6603994aTiles, Tiles2, Tiles3.
-/
import Derived.Test.Qxb6603994aRows
import Derived.Test.Qxb6603994aTiles2
import Derived.Test.Qxb6603994aTiles3
import Derived.Test.Qxb6603994aOpenRow
import Derived.WalkKit
import Derived.ProofKit
import Derived.OpenShut
import Derived.ShutString
import Derived.ChangeOld
import Derived.Below
namespace Go.Proofs.Qxb6603994a.fnHeldTilesItsBuffer
open Go.ChangeShapes Go.WideShapes Go.ChangeAt Go.RowKit
open Go.ChangeMaps (open_string shut_string)
set_option linter.unusedVariables false

theorem own : ownKnob Try.prog.godebug = none := by kernel_rfl
theorem laidOut : laidOutB Try.prog = true := by kernel_rfl

/-! ### STEP 1: THE WALK: the Go text returns true, AND WRITES NOTHING THAT WAS THERE: 'Below w.heap.size w w'' (Derived/Below.lean: '.refl', '.alloc', '.drew', '.setCell' at a new block, '.trans'). Open each 'IsRow' by 'rcases' AHEAD of 'go_enter'; part every test ahead of the walk. -/
theorem walk (a0 : Option Addr) (len0 cap0 : Nat) (z0 : List Int) (a1 : Int) (a2 : Int) (a3 : Int) (a4 : Int) (a5 : Int) (w : World) (w0 : IsRow .u8 w a0 len0 cap0 z0) (w1 : (Lit.int .i64 a1).wf = true) (w2 : (Lit.int .i64 a2).wf = true) (w3 : (Lit.int .i64 a3).wf = true) (w4 : (Lit.int .i64 a4).wf = true) (w5 : (Lit.int .i64 a5).wf = true) :
    Calls Try.prog 6 #[.slice a0 len0 cap0, .int .i64 a1, .int .i64 a2, .int .i64 a3, .int .i64 a4, .int .i64 a5] w fun e w' => e = .returned (.bool true) ∧ Below w.heap.size w w' := by
  obtain ⟨b30, b31⟩ := bounds_i64 w3
  obtain ⟨b40, b41⟩ := bounds_i64 w4
  by_cases h1 : len0 ≤ 1048576
  · by_cases c5 : a5 < 0
    · exact ht_early a0 len0 cap0 a1 a2 a3 a4 a5 w h1 b41 (.inl c5)
    by_cases c4 : a4 < 0
    · exact ht_early a0 len0 cap0 a1 a2 a3 a4 a5 w h1 b41 (.inr (.inl ⟨by omega, c4⟩))
    by_cases c3 : a3 < 0
    · exact ht_early a0 len0 cap0 a1 a2 a3 a4 a5 w h1 b41 (.inr (.inr (.inl ⟨by omega, by omega, c3⟩)))
    by_cases cb : 65536 < a4
    · exact ht_early a0 len0 cap0 a1 a2 a3 a4 a5 w h1 b41 (.inr (.inr (.inr (.inl ⟨by omega, by omega, by omega, cb⟩))))
    by_cases cs : 9223372036854775807 - a4 < a3
    · exact ht_early a0 len0 cap0 a1 a2 a3 a4 a5 w h1 b41 (.inr (.inr (.inr (.inr (.inl ⟨by omega, by omega, by omega, by omega, cs⟩)))))
    rcases Int.lt_or_eq_of_le (Int.not_lt.1 c5) with hp | hz
    · -- entries of at least one byte
      have hq := quo_bounds len0 a5 h1 hp
      by_cases cq : (len0 : Int) / a5 < a4
      · exact ht_early a0 len0 cap0 a1 a2 a3 a4 a5 w h1 b41 (.inr (.inr (.inr (.inr (.inr (.inl ⟨hp, by omega, by omega, by omega, by omega, hq.1, hq.2, cq⟩))))))
      by_cases ce : a2 = a1
      · exact ht_early a0 len0 cap0 a1 a2 a3 a4 a5 w h1 b41 (.inr (.inr (.inr (.inr (.inr (.inr (.inl ⟨hp, by omega, by omega, by omega, by omega, hq.1, hq.2, by omega, by simp [ce]⟩)))))))
      have hne : (a2 == a1) = false := by simp [ce]
      obtain ⟨N, rfl⟩ := Int.eq_ofNat_of_zero_le (Int.not_lt.1 c4)
      obtain ⟨W, rfl⟩ := Int.eq_ofNat_of_zero_le (Int.le_of_lt hp)
      rcases isRow_open w0 with ⟨rfl, rfl, rfl⟩ | ⟨b, off, sp, rfl, hsp, hc⟩
      · obtain rfl : N = 0 := by simp at cq; omega
        exact ht_nil_pos a1 a2 a3 W w (by omega) hp (by omega) hne
      · have h2 : (N : Int) * W ≤ len0 := (Int.le_ediv_iff_mul_le (by omega)).1 (Int.not_lt.1 cq)
        have hNW : N * W ≤ len0 := by
          have e : (N : Int) * W = ((N * W : Nat) : Int) := (Int.natCast_mul N W).symm
          rw [e] at h2
          omega
        exact ht_pos b off sp len0 cap0 z0 a1 a2 a3 N W w h1 hsp hc (by omega) (by omega) (by omega) hne (by omega) hq.1 hq.2 (Int.not_lt.1 cq) hNW
    · -- entries of no byte
      obtain rfl : a5 = 0 := hz.symm
      by_cases ce : a2 = a1
      · exact ht_early a0 len0 cap0 a1 a2 a3 a4 0 w h1 b41 (.inr (.inr (.inr (.inr (.inr (.inr (.inr ⟨rfl, by omega, by omega, by omega, by omega, by simp [ce]⟩)))))))
      have hne : (a2 == a1) = false := by simp [ce]
      obtain ⟨N, rfl⟩ := Int.eq_ofNat_of_zero_le (Int.not_lt.1 c4)
      rcases isRow_open w0 with ⟨rfl, rfl, rfl⟩ | ⟨b, off, sp, rfl, hsp, hc⟩
      · exact ht_nil_zero a1 a2 a3 N w (by omega) (by omega) (by omega) hne
      · exact ht_zero b off sp len0 cap0 z0 a1 a2 a3 N w h1 hsp hc (by omega) (by omega) (by omega) hne
  · exact ht_long a0 len0 cap0 a1 a2 a3 a4 a5 w (by omega)

/-! ### THE ROW's STEP: WRITTEN OUT: LEAVE IT -/
set_option maxRecDepth 100000 in
theorem lifted (os : Os) (started : os.Started) (H : Type) (enc : TypeId × Value → H) :
    ReturnsInHanded {} Try.checked os 6 .any (Rows.fnHeldTilesItsBufferSpec.pre6 enc Try.prog Try.f6 Rows.fnHeldTilesItsBufferRow.domain false) (Rows.fnHeldTilesItsBufferSpec.post enc Try.prog Try.f6 false true false false) := by
  refine returnsInHanded_of_change (C := Try.checked) own started (by kernel_rfl) Try.func6
    (ChangeSpec.witness6 (enc := enc) (C := Try.checked) false ⟨#[], #[.slice none 0 0, .int .i64 0, .int .i64 0, .int .i64 0, .int .i64 0, .int .i64 0], []⟩ 8 (by kernel_rfl) (by kernel_rfl) (by kernel_rfl) (by kernel_rfl)) ?_
  intro W base args ds gs before hval0 hW hcnd _
  have hval : ∀ (j : Nat) t v, Try.f6.params[j]? = some t → args[j]? = some v → Value.okWide Try.prog W .any base t v := hval0
  have hW' := hW
  obtain ⟨p, q, hA0, hV, rfl, hfz, hnd⟩ := hW
  have hA : DataW.TrodAll enc Try.prog W 0 (fun _ => true) true Try.f6.params.toList args.toList ds p := hA0
  rw [Try.params6] at hA hval
  obtain ⟨v0, vs0, d0, ds0, p0, q0, hargs, rfl, rfl, h0, r0⟩ := trodAll_cons hA
  obtain ⟨v1, vs1, d1, ds1, p1, q1, rfl, rfl, rfl, h1, r1⟩ := trodAll_cons r0
  obtain ⟨v2, vs2, d2, ds2, p2, q2, rfl, rfl, rfl, h2, r2⟩ := trodAll_cons r1
  obtain ⟨v3, vs3, d3, ds3, p3, q3, rfl, rfl, rfl, h3, r3⟩ := trodAll_cons r2
  obtain ⟨v4, vs4, d4, ds4, p4, q4, rfl, rfl, rfl, h4, r4⟩ := trodAll_cons r3
  obtain ⟨v5, vs5, d5, ds5, p5, q5, rfl, rfl, rfl, h5, r5⟩ := trodAll_cons r4
  obtain ⟨rfl, rfl, rfl⟩ := trodAll_nil r5
  obtain rfl : args = #[v0, v1, v2, v3, v4, v5] := by cases args; simp_all
  obtain ⟨rfl, rfl⟩ := trodVars_none hV
  obtain ⟨a0, len0, cap0, rfl⟩ := okWide_slice Try.underlying46 (hval 0 46 v0 rfl rfl)
  have k0 := h0
  have lt0 : ∀ x ∈ p0, x.block < W.heap.size := by obtain ⟨m, hm⟩ := k0; exact DataW.trod_lt m _ _ _ hm
  obtain ⟨z0, w0⟩ : ∃ zs, IsRow .u8 W a0 len0 cap0 zs := by
    obtain ⟨fuel, hf⟩ := h0
    rcases open_ints Try.underlying46 Try.underlying5 (by kernel_rfl) hf with ⟨hcs, _⟩ | ⟨x, l, c, zs, hcs, _, hl, hm, hz, _, hcell, hwz⟩
    · simp [Value.cells] at hcs
      obtain ⟨rfl, rfl, rfl⟩ := hcs
      exact ⟨[], .inl ⟨rfl, rfl, rfl, rfl⟩⟩
    · simp [Value.cells] at hcs
      obtain ⟨rfl, rfl, rfl⟩ := hcs
      exact ⟨zs, .inr ⟨_, rfl, hl, hm, by simpa using hz, hcell, hwz⟩⟩
  obtain ⟨a1, rfl, rfl, rfl, w1⟩ := open_int Try.underlying2 (hval 1 2 v1 rfl rfl) h1
  obtain ⟨a2, rfl, rfl, rfl, w2⟩ := open_int Try.underlying2 (hval 2 2 v2 rfl rfl) h2
  obtain ⟨a3, rfl, rfl, rfl, w3⟩ := open_int Try.underlying3 (hval 3 3 v3 rfl rfl) h3
  obtain ⟨a4, rfl, rfl, rfl, w4⟩ := open_int Try.underlying3 (hval 4 3 v4 rfl rfl) h4
  obtain ⟨a5, rfl, rfl, rfl, w5⟩ := open_int Try.underlying3 (hval 5 3 v5 rfl rfl) h5
  clear hA0 hval0
  refine (walk a0 len0 cap0 z0 a1 a2 a3 a4 a5 W w0 w1 w2 w3 w4 w5).mono fun e W' ⟨he, bel⟩ => ?_
  subst he
  exact ⟨_, rfl, _, _, _, [], _, [], hW', trodAll_mk1 (shut_bool Try.underlying4 _), (trodAll_cons_mk (Below.trod laidOut (by kernel_rfl) (of_decide_eq_true (by kernel_rfl)) k0 bel lt0) (trodAll_cons_mk (shut_int Try.underlying2 w1) (trodAll_cons_mk (shut_int Try.underlying2 w2) (trodAll_cons_mk (shut_int Try.underlying3 w3) (trodAll_cons_mk (shut_int Try.underlying3 w4) (trodAll_cons_mk (shut_int Try.underlying3 w5) trodAll_mk0)))))), rfl, bel.frame _, fun h => by cases h⟩

theorem over : Rows.fnHeldTilesItsBufferRow.holds Try.pinned (OpenSpec.ofChange Rows.fnHeldTilesItsBufferSpec) :=
  OpenClaim.holds_of_wide 6 Try.f6 rfl rfl rfl rfl rfl rfl rfl ⟨rfl, rfl, rfl, rfl, rfl⟩ rfl rfl rfl rfl rfl (by kernel_rfl) Try.func6 (by kernel_rfl)
    (of_decide_eq_true (by kernel_rfl)) (by unfold Func.isWrapper; first | (rw [if_pos (by decide +kernel)]; kernel_rfl) | (rw [if_neg (by decide +kernel)]; exact ⟨rfl, rfl⟩))
    (fun os started H enc _ => lifted os started H enc)

/-- ████ THE STATEMENT ████ -/
theorem proved : Rows.FnHeldTilesItsBufferSaid := over
#print axioms proved
end Go.Proofs.Qxb6603994a.fnHeldTilesItsBuffer
