/-
  From the shell's reading of a slice of integers to the walks' own.
-/
import Derived.Test.Qxb6616332aLeaves
namespace Go.Proofs.Qxb6616332a
open Go.RowKit

/-- WHAT THE WALK IS TOLD OF A SLICE OF INTEGERS THAT CAME IN: it is nil; or it leads to a row of 'cap' cells, the numbers 'zs' (the first 'len' are its elements, the rest its spare room), each fitting its kind. -/
def IsRow (k : IntKind) (w : World) (a : Option Addr) (len cap : Nat) (zs : List Int) : Prop :=
  (a = none ∧ len = 0 ∧ cap = 0 ∧ zs = []) ∨
  ∃ x, a = some x ∧ len ≤ cap ∧ cap ≤ maxLen ∧ zs.length = cap ∧ (∀ i, i < zs.length → w.cell? (x.add i) = some (.int k (zs.getD i 0))) ∧ ∀ n ∈ zs, (Lit.int k n).wf = true

theorem IsRow.le {k : IntKind} {w : World} {a : Option Addr} {len cap : Nat} {zs : List Int} (h : IsRow k w a len cap zs) : len ≤ maxLen := by
  rcases h with ⟨_, h, _⟩ | ⟨x, _, h1, h2, _⟩
  · rw [h]; exact Nat.zero_le _
  · exact Nat.le_trans h1 h2
theorem IsRow.inRow {w : World} {a : Option Addr} {len cap : Nat} {zs : List Int} (h : IsRow .i64 w a len cap zs) : InRow w a len cap (fun i => zs.getD i 0) := by
  rcases h with ⟨h1, h2, h3, _⟩ | ⟨x, ha, h1, h2, h3, h4, _⟩
  · exact .inl ⟨h1, h2, h3⟩
  · refine .inr ⟨x, ha, fun hn => ?_⟩
    obtain ⟨b, off, spot⟩ := x
    have c0 := h4 0 (by omega)
    have hs : spot = none := by simpa [Addr.add] using World.cell?_spot c0
    subst hs
    refine ⟨b, off, rfl, World.block_lt_of_cell? w _ c0, fun i hi => ?_⟩
    have := h4 i (by omega)
    rwa [show (⟨b, off, none⟩ : Addr).add i = ⟨b, off + i, none⟩ from by unfold Addr.add; split <;> simp_all] at this
end Go.Proofs.Qxb6616332a
