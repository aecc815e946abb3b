/-
  A SLICE OF INTEGERS THAT CAME IN, as the seat's shell tells it, opened for the walks.
-/
import Derived.Test.Qxb6603994aRows
import Derived.WalkKit
namespace Go.Proofs.Qxb6603994a
open Go.RowKit

/-- What the walk is told of a slice of integers that came in: it is nil; or it leads to a row of 'cap' cells, the numbers 'zs' (the first 'len' are its elements, the rest its spare room), each fitting its kind. -/
def IsRow (k : IntKind) (w : World) (a : Option Addr) (len cap : Nat) (zs : List Int) : Prop :=
  (a = none ∧ len = 0 ∧ cap = 0 ∧ zs = []) ∨
  ∃ x, a = some x ∧ len ≤ cap ∧ cap ≤ maxLen ∧ zs.length = cap ∧ (∀ i, i < zs.length → w.cell? (x.add i) = some (.int k (zs.getD i 0))) ∧ ∀ n ∈ zs, (Lit.int k n).wf = true

theorem isRow_open {k : IntKind} {w : World} {a : Option Addr} {len cap : Nat} {zs : List Int} (h : IsRow k w a len cap zs) :
    (a = none ∧ len = 0 ∧ cap = 0) ∨ ∃ b off sp, a = some ⟨b, off, sp⟩ ∧ (0 < len → sp = none ∧ b < w.heap.size) ∧ ∀ j, j < len → w.cell? ⟨b, off + j, none⟩ = some (.int k (zs.getD j 0)) := by
  rcases h with ⟨rfl, rfl, rfl, _⟩ | ⟨⟨b, off, sp⟩, rfl, hl, _, hz, hc, _⟩
  · exact .inl ⟨rfl, rfl, rfl⟩
  · refine .inr ⟨b, off, sp, rfl, ?_, ?_⟩
    · intro h0
      have h := hc 0 (by omega)
      exact ⟨by simpa [Addr.add] using World.cell?_spot h, by simpa [Addr.add] using World.block_lt_of_cell? w _ h⟩
    · intro j hj
      have h := hc j (by omega)
      have h0 := hc 0 (by omega)
      have hsp : sp = none := by simpa [Addr.add] using World.cell?_spot h0
      subst hsp
      have e : (⟨b, off, none⟩ : Addr).add j = ⟨b, off + j, none⟩ := by unfold Addr.add; split <;> simp_all
      rwa [e] at h
end Go.Proofs.Qxb6603994a
