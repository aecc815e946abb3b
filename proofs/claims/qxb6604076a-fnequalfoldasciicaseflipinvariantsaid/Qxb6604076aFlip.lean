/-
  THE CONTRACT OF flipCaseB1 (11).
-/
import Derived.Test.Qxb6604076aKer
import Derived.Test.Qxb6604076aEq
import Derived.Deep.OwnRows
import Derived.Laws.BytesArg
namespace Go.Proofs.Qxb6604076a
open Go.RowKit

/-! ### The plain part -/
/-- A byte with its case turned. -/
def flipC (c : Int) : Int := if isLet c = true then flip c else c
/-- The bytes of a string, each with its case turned. -/
def flips (s : ByteArray) : List Int := s.data.toList.map fun c => flipC c.toNat

set_option maxRecDepth 100000 in
theorem or_tab : ∀ x : Fin 256, (x.val ||| 32) = if x.val / 32 % 2 = 0 then x.val + 32 else x.val := by decide +kernel
theorem or_32 {c : Int} (h0 : 0 ≤ c) (h1 : c ≤ 255) : bits .or .u8 c 32 = if c / 32 % 2 = 0 then c + 32 else c := by
  rw [u8_or c 32 h0 (by omega) (by omega) (by omega)]
  have h := or_tab ⟨c.toNat, by omega⟩
  have e : (32 : Int).toNat = 32 := rfl
  simp only at h
  rw [e, h]
  split <;> split <;> omega
theorem or_letter {c : Int} (h0 : 0 ≤ c) (h1 : c ≤ 255) (hl : isLet c = true) : 97 ≤ bits .or .u8 c 32 ∧ bits .or .u8 c 32 ≤ 122 := by
  have h := of_decide_eq_true hl
  rw [or_32 h0 h1]
  split <;> omega
theorem or_other {c : Int} (h0 : 0 ≤ c) (h1 : c ≤ 255) (hl : isLet c = false) : bits .or .u8 c 32 < 97 ∨ 122 < bits .or .u8 c 32 := by
  have h := of_decide_eq_false hl
  rw [or_32 h0 h1]
  split <;> omega
theorem flipC_bounds {c : Int} (h0 : 0 ≤ c) (h1 : c ≤ 255) : 0 ≤ flipC c ∧ flipC c ≤ 255 := by
  unfold flipC
  by_cases hl : isLet c = true
  · rw [if_pos hl]
    have h := of_decide_eq_true hl
    unfold flip
    split <;> omega
  · rw [if_neg hl]
    exact ⟨h0, h1⟩
theorem lower_flipC (c : Int) : lower (flipC c) = lower c := by
  unfold flipC
  by_cases hl : isLet c = true
  · rw [if_pos hl]
    exact (ker_yes hl).symm
  · rw [if_neg hl]

theorem flips_length (s : ByteArray) : (flips s).length = s.size := by simp [flips]
theorem flips_get (s : ByteArray) (k : Nat) (h : k < s.size) : (flips s).getD k 0 = flipC (s[k].toNat : Int) := by
  unfold flips
  rw [List.getD_eq_getElem?_getD, List.getElem?_map, List.getElem?_eq_getElem (by simpa using h)]
  rfl
theorem fold_flips (s : ByteArray) : fold (strOfNums (flips s)) = fold s := by
  unfold fold
  rw [strOfNums_data]
  unfold flips
  rw [List.map_map, List.map_map]
  refine List.map_congr_left fun c _ => ?_
  have hb : 0 ≤ flipC (c.toNat : Int) ∧ flipC (c.toNat : Int) ≤ 255 := flipC_bounds (by omega) (by have := c.toNat_lt; omega)
  have e : (((UInt8.ofNat (flipC (c.toNat : Int)).toNat).toNat : Nat) : Int) = flipC (c.toNat : Int) := by
    rw [UInt8.toNat_ofNat']
    omega
  show lower (((UInt8.ofNat (flipC (c.toNat : Int)).toNat).toNat : Nat) : Int) = lower (c.toNat : Int)
  rw [e, lower_flipC]

/-- What the new array holds at round k. -/
def Fl (s : ByteArray) (k : Nat) (arr : Array Value) : Prop := (∀ j, j < k → arr[j]? = some (.int .u8 ((flips s).getD j 0))) ∧ ∀ j, j < s.size → ∃ n, arr[j]? = some (.int .u8 n)

theorem fl_start (s : ByteArray) : Fl s 0 (madeCells #[.int .u8 0] s.size) := by
  refine ⟨fun j hj => by omega, fun j hj => ⟨0, ?_⟩⟩
  have h := congrArg (fun l : List Value => l[j]?) (toList_madeCells_one (.int .u8 0) s.size)
  simpa [hj] using h
theorem fl_step {s : ByteArray} {k : Nat} {arr : Array Value} (h : Fl s k arr) (hk : k < s.size) {v : Int} (hv : v = (flips s).getD k 0) : Fl s (k + 1) (arr.setIfInBounds k (.int .u8 v)) := by
  have hsz : k < arr.size := by
    obtain ⟨n, hn⟩ := h.2 k hk
    rcases Nat.lt_or_ge k arr.size with h | h
    · exact h
    · rw [Array.getElem?_eq_none h] at hn
      cases hn
  refine ⟨fun j hj => ?_, fun j hj => ?_⟩
  · rw [Array.getElem?_setIfInBounds]
    by_cases e : k = j
    · subst e
      rw [if_pos rfl, if_pos hsz, hv]
    · rw [if_neg e]
      exact h.1 j (by omega)
  · rw [Array.getElem?_setIfInBounds]
    by_cases e : k = j
    · subst e
      exact ⟨v, by rw [if_pos rfl, if_pos hsz]⟩
    · rw [if_neg e]
      exact h.2 j hj

/-! ### The walk -/
theorem Try.info5 : (Try.prog.info? 5).map (fun i => (i.zero, i.size, i.bytes)) = some (some (.int .u8 0), 1, 1) := by kernel_rfl

set_option maxHeartbeats 600000 in
theorem flip11 (s : ByteArray) (w : World) (hs : s.size ≤ 1048576) :
    Calls Try.prog 11 #[.string s] w fun e w' => e = .returned (.string (strOfNums (flips s))) ∧ ∃ arr, w' = w.alloc (.cells arr 5) := by
  have hmk := run_make_row' (P := Try.prog) 28 5 (.int .u8 0) 1 Try.underlying28 Try.info5 rfl .i64 .i64 s.size (by omega) (by omega)
  go_enter Try.func11, Try.ntmps11
  go_wp2
  clear hmk
  go_loopw [4] (fun i wr => ∃ (k : Nat) (arr : Array Value), k ≤ s.size ∧ i = .int .i64 k ∧ wr = w.alloc (.cells arr 5) ∧ Hid (Fl s k arr)) (fun i _ => s.size - (intOf i).toNat)
  case atStart => exact ⟨0, _, by omega, rfl, rfl, fl_start s⟩
  case round =>
    obtain ⟨k, arr, hk, rfl, rfl, hF⟩ := hrel
    by_cases hlt : k < s.size
    · obtain ⟨v, hv⟩ := hF.out.2 k hlt
      have HG : Hid ((flips s).getD k 0 = flipC (s[k].toNat : Int)) := flips_get s k hlt
      have hb0 : 0 ≤ (s[k].toNat : Int) := by omega
      have hb1 : (s[k].toNat : Int) ≤ 255 := by have := s[k].toNat_lt; omega
      cases hl : isLet (s[k].toNat : Int)
      · rcases or_other hb0 hb1 hl with ho | ho
        · have ho' : decide (97 ≤ bits .or .u8 (s[k].toNat : Int) 32) = false := decide_eq_false (by omega)
          have HE : Hid ((s[k].toNat : Int) = (flips s).getD k 0) := by rw [HG.out]; unfold flipC; rw [hl]; rfl
          clear HG hl ho
          go_wp2
          go_roundw
          case rel => exact ⟨k + 1, _, by omega, by go_num, rfl, fl_step hF.out hlt HE.out⟩
          case measure => simp [intOf]; omega
        · have ho1 : 97 ≤ bits .or .u8 (s[k].toNat : Int) 32 := by omega
          have ho' : decide (bits .or .u8 (s[k].toNat : Int) 32 ≤ 122) = false := decide_eq_false (by omega)
          have HE : Hid ((s[k].toNat : Int) = (flips s).getD k 0) := by rw [HG.out]; unfold flipC; rw [hl]; rfl
          clear HG hl ho
          go_wp2
          go_roundw
          case rel => exact ⟨k + 1, _, by omega, by go_num, rfl, fl_step hF.out hlt HE.out⟩
          case measure => simp [intOf]; omega
      · obtain ⟨ho1, ho2⟩ := or_letter hb0 hb1 hl
        have hx := xor_32 hb0 hb1
        have HE : Hid (flip (s[k].toNat : Int) = (flips s).getD k 0) := by rw [HG.out]; unfold flipC; rw [hl]; rfl
        clear HG hl
        go_wp2
        go_roundw
        case rel => exact ⟨k + 1, _, by omega, by go_num, rfl, fl_step hF.out hlt HE.out⟩
        case measure => simp [intOf]; omega
    · have hcv := run_convert_bytes_arg (P := Try.prog) (w.alloc (.cells arr 5)) 28 5 Try.underlying28 Try.underlying5 w.heap.size 0 s.size s.size (flips s) (flips_length s) (fun i hi => by rw [World.cell?_alloc_at _ _ _ _ rfl, Nat.zero_add]; exact hF.out.1 i (by omega)) 9 Try.underlying9
      go_wp2
      go_ret
      exact ⟨rfl, _, rfl⟩
end Go.Proofs.Qxb6604076a
