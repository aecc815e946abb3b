/-
  THE CONTRACT OF EqualFoldASCII (9).
-/
import Derived.Test.Qxb6604076aLow
import Derived.Deep.QuietTactic
import Derived.BigQuiet
namespace Go.Proofs.Qxb6604076a
open Go.RowKit

/-- The bytes of a string, lowered. -/
def fold (s : ByteArray) : List Int := s.data.toList.map fun c => lower c.toNat
/-- What EqualFoldASCII answers. -/
def eqf (a b : ByteArray) : Bool := decide (fold a = fold b)

theorem fold_length (s : ByteArray) : (fold s).length = s.size := by simp [fold]
theorem fold_get (s : ByteArray) (k : Nat) (h : k < s.size) : (fold s)[k]? = some (lower (s[k].toNat : Int)) := by
  unfold fold
  rw [List.getElem?_map, List.getElem?_eq_getElem (by simpa using h)]
  rfl

theorem eqf_size {a b : ByteArray} (h : a.size ≠ b.size) : eqf a b = false := by
  refine decide_eq_false fun he => h ?_
  rw [← fold_length a, ← fold_length b, he]
theorem eqf_all {a b : ByteArray} (hs : a.size = b.size) (h : ∀ k, k < a.size → (fold a)[k]? = (fold b)[k]?) : eqf a b = true := by
  refine decide_eq_true (List.ext_getElem? fun k => ?_)
  by_cases hk : k < a.size
  · exact h k hk
  · rw [List.getElem?_eq_none (by rw [fold_length]; omega), List.getElem?_eq_none (by rw [fold_length]; omega)]
theorem eqf_not {a b : ByteArray} {k : Nat} (h : (fold a)[k]? ≠ (fold b)[k]?) : eqf a b = false :=
  decide_eq_false fun he => h (by rw [he])

theorem drewN_more {w wr : World} (h : ∃ n, wr = w.drewN n) (m : Nat) : ∃ n, wr.drewN m = w.drewN n := by
  obtain ⟨n, rfl⟩ := h
  exact ⟨n + m, World.drewN_drewN _ _ _⟩

theorem low16b (c : UInt8) (w : World) : Calls Try.prog 16 #[.int .u8 (c.toNat : Int)] w fun e w' => e = .returned (.int .u8 (lower (c.toNat : Int))) ∧ w' = w :=
  low16 _ w (by omega) (by have := c.toNat_lt; omega)

theorem eq9_size (a b : ByteArray) (w : World) (h : a.size ≠ b.size) : Calls Try.prog 9 #[.string a, .string b] w fun e w' => e = .returned (.bool (eqf a b)) ∧ ∃ n, w' = w.drewN n := by
  have HE : Hid (false = eqf a b) := (eqf_size h).symm
  have h' : ((a.size : Int) != (b.size : Int)) = true := by rw [bne_iff_ne]; omega
  clear h
  go_enter Try.func9, Try.ntmps9
  go_wp2
  go_ret
  exact ⟨ret_bool HE.out, 0, rfl⟩

set_option maxHeartbeats 400000 in
theorem eq9_same (a b : ByteArray) (w : World) (h : a.size = b.size) (hs : a.size ≤ 1048576) : Calls Try.prog 9 #[.string a, .string b] w fun e w' => e = .returned (.bool (eqf a b)) ∧ ∃ n, w' = w.drewN n := by
  have h' : ((a.size : Int) != (b.size : Int)) = false := by rw [bne_eq_false_iff_eq]; omega
  have h1 : a.size ≤ b.size := by omega
  have h2 : b.size ≤ a.size := by omega
  have HS : Hid (a.size = b.size) := h
  clear h
  go_enter Try.func9, Try.ntmps9
  go_wp2
  go_loopw [5] (fun i wr => ∃ k : Nat, k ≤ a.size ∧ i = .int .i64 k ∧ Hid (∀ j, j < k → (fold a)[j]? = (fold b)[j]?) ∧ Hid (∃ n, wr = w.drewN n)) (fun i _ => a.size - (intOf i).toNat)
  case atStart => exact ⟨0, by omega, rfl, fun j hj => by omega, 0, rfl⟩
  case round =>
    obtain ⟨k, hk, rfl, hall, hw⟩ := hrel
    by_cases hlt : k < a.size
    · have hlt' : k < b.size := by omega
      have HA : Hid ((fold a)[k]? = some (lower (a[k].toNat : Int))) := fold_get a k hlt
      have HB : Hid ((fold b)[k]? = some (lower (b[k].toNat : Int))) := fold_get b k hlt'
      by_cases hne : lower (a[k].toNat : Int) = lower (b[k].toNat : Int)
      · have hall' : Hid (∀ j, j < k + 1 → (fold a)[j]? = (fold b)[j]?) := by
          intro j hj
          rcases Nat.lt_or_ge j k with h | h
          · exact hall.out j h
          · obtain rfl : j = k := by omega
            rw [HA.out, HB.out, hne]
        have hne' : (lower (a[k].toNat : Int) != lower (b[k].toNat : Int)) = false := by rw [bne_eq_false_iff_eq]; exact hne
        clear hne HA HB
        go_wp2
        go_quiet ((go_at_call 16; exact Calls.quiet_of_same (low16b _ _)))
        go_wp2
        go_roundw
        case rel => exact ⟨k + 1, by omega, by go_num, hall', drewN_more hw.out _⟩
        case measure => simp [intOf]; omega
      · have HE : Hid (false = eqf a b) := (eqf_not (k := k) (by rw [HA.out, HB.out]; simpa using hne)).symm
        have hne' : (lower (a[k].toNat : Int) != lower (b[k].toNat : Int)) = true := by rw [bne_iff_ne]; exact hne
        clear hne HA HB
        go_wp2
        go_quiet ((go_at_call 16; exact Calls.quiet_of_same (low16b _ _)))
        go_wp2
        go_ret
        exact ⟨ret_bool HE.out, drewN_more hw.out _⟩
    · have HE : Hid (true = eqf a b) := (eqf_all HS.out fun j hj => hall.out j (by omega)).symm
      go_wp2
      go_ret
      exact ⟨ret_bool HE.out, hw.out⟩

theorem eq9 (a b : ByteArray) (w : World) (hs : a.size ≤ 1048576) : Calls Try.prog 9 #[.string a, .string b] w fun e w' => e = .returned (.bool (eqf a b)) ∧ ∃ n, w' = w.drewN n := by
  by_cases h : a.size = b.size
  · exact eq9_same a b w h hs
  · exact eq9_size a b w h
end Go.Proofs.Qxb6604076a
