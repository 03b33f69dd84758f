import Derived.Test.Qxb6618085aLawHex
import Derived.OpenShut
namespace Go.Proofs.Qxb6618085a
open Go.RowKit

/-- WHAT THE WALK IS TOLD OF A SLICE OF INTEGERS THAT CAME IN: it is nil; or it leads to a row of 'cap' cells, the numbers 'zs' (the first 'len' are its elements, the rest its spare room), each fitting its kind. -/
def IsRow (k : IntKind) (w : World) (a : Option Addr) (len cap : Nat) (zs : List Int) : Prop :=
  (a = none ∧ len = 0 ∧ cap = 0 ∧ zs = []) ∨
  ∃ x, a = some x ∧ len ≤ cap ∧ cap ≤ maxLen ∧ zs.length = cap ∧ (∀ i, i < zs.length → w.cell? (x.add i) = some (.int k (zs.getD i 0))) ∧ ∀ n ∈ zs, (Lit.int k n).wf = true

theorem IsRow.row {w : World} {a : Option Addr} {len cap : Nat} {zs : List Int} (h : IsRow .i32 w a len cap zs) :
    ∃ l : List Int, len = l.length ∧ l.length ≤ cap ∧ l.length ≤ maxLen ∧ Row w a l ∧ ∀ i, i < l.length → -2147483648 ≤ l.getD i 0 ∧ l.getD i 0 ≤ 2147483647 := by
  rcases h with ⟨rfl, rfl, rfl, rfl⟩ | ⟨x, rfl, hl, hm, hz, hc, hwf⟩
  · exact ⟨[], rfl, Nat.le_refl _, by simp, .inl rfl, by simp⟩
  · have hlen : (zs.take len).length = len := by simp; omega
    refine ⟨zs.take len, hlen.symm, by omega, by omega, ?_, ?_⟩
    · by_cases h0 : len = 0
      · exact .inl (by simp [h0])
      · obtain ⟨b, off, spot⟩ := x
        have hspot : spot = none := by simpa [Addr.add] using World.cell?_spot (hc 0 (by omega))
        subst hspot
        refine .inr ⟨b, off, rfl, fun i hi => ?_⟩
        rw [hlen] at hi
        have := hc i (by omega)
        rw [Addr.add_lit] at this
        rw [this]
        simp [List.getD, hi]
    · intro i hi
      have hm2 : (zs.take len).getD i 0 ∈ zs := List.mem_of_mem_take (by simp only [List.getD, List.getElem?_eq_getElem hi, Option.getD_some]; exact List.getElem_mem _)
      exact bounds_i32 (hwf _ hm2)
end Go.Proofs.Qxb6618085a
