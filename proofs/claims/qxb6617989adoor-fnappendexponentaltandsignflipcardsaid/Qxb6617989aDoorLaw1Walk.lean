import Derived.Test.Qxb6617989aDoorLaw1Main
import Derived.OpenShut
namespace Go.Proofs.Qxb6617989aDoor
open Go.RowKit

/-- WHAT THE WALK IS TOLD OF A SLICE OF INTEGERS THAT CAME IN: it is nil; or it leads to a row of 'cap' cells, the numbers 'zs' (the first 'len' are its elements, the rest its spare room), each fitting its kind. -/
def IsRow (k : IntKind) (w : World) (a : Option Addr) (len cap : Nat) (zs : List Int) : Prop :=
  (a = none ∧ len = 0 ∧ cap = 0 ∧ zs = []) ∨
  ∃ x, a = some x ∧ len ≤ cap ∧ cap ≤ maxLen ∧ zs.length = cap ∧ (∀ i, i < zs.length → w.cell? (x.add i) = some (.int k (zs.getD i 0))) ∧ ∀ n ∈ zs, (Lit.int k n).wf = true

theorem IsRow.row {w : World} {a : Option Addr} {len cap : Nat} {zs : List Int} (h : IsRow .u8 w a len cap zs) :
    ∃ l : List Int, len = l.length ∧ l.length ≤ maxLen ∧ Row w a l ∧ ∀ i, i < l.length → 0 ≤ l.getD i 0 ∧ l.getD i 0 ≤ 255 := by
  rcases h with ⟨rfl, rfl, rfl, rfl⟩ | ⟨x, rfl, hl, hm, hz, hc, hwf⟩
  · exact ⟨[], rfl, by simp, .inl rfl, by simp⟩
  · have hlen : (zs.take len).length = len := by simp; omega
    refine ⟨zs.take len, hlen.symm, by omega, ?_, ?_⟩
    · by_cases h0 : len = 0
      · exact .inl (by simp [h0])
      · obtain ⟨b, off, spot⟩ := x
        have hspot : spot = none := by simpa [Addr.add] using World.cell?_spot (hc 0 (by omega))
        subst hspot
        refine .inr ⟨b, off, rfl, fun i hi => ?_⟩
        rw [hlen] at hi
        have := hc i (by omega)
        rw [Addr.add_lit] at this
        rw [this]
        simp [List.getD, hi]
    · intro i hi
      rw [hlen] at hi
      have hm2 : (zs.take len).getD i 0 ∈ zs := List.mem_of_mem_take (getD_mem (by omega))
      exact bounds_u8 (hwf _ hm2)

set_option maxRecDepth 100000 in
set_option maxHeartbeats 1000000 in
theorem law1_walk (a0 a1 : Option Addr) (l0 c0 l1 c1 : Nat) (z0 z1 : List Int) (n ex : Int) (alt : Bool) (w : World) (r0 : IsRow .u8 w a0 l0 c0 z0) (r1 : IsRow .u8 w a1 l1 c1 z1) (htab : Tab w) :
    Calls Tryd.prog 3 #[.slice a0 l0 c0, .slice a1 l1 c1, .int .i64 n, .int .i64 ex, .bool alt] w fun e w' => e = .returned (.bool true) ∧ Below w.heap.size w w' := by
  obtain ⟨D, rfl, hDm, hD, -⟩ := r0.row
  obtain ⟨G, rfl, hGm, hG, hGb⟩ := r1.row
  clear r0 r1
  by_cases g0 : D.length + G.length ≤ 1048576
  · by_cases g1 : D.length ≤ 65536 ∧ G.length ≤ 65536 ∧ n ≤ 65536 ∧ -1073741824 ≤ ex ∧ ex ≤ 1073741824 ∧ 1 ≤ G.length ∧ (G.length : Int) ≤ n
    · obtain ⟨hD1, hG1, hn, he0, he1, hG2, hGn⟩ := g1
      obtain ⟨m, rfl⟩ := Int.eq_ofNat_of_zero_le (show 0 ≤ n by omega)
      rcases hG with hG | ⟨b, off, rfl, hG⟩
      · rw [hG] at hG2; simp at hG2
      exact law1_main a0 c0 b off c1 D G m ex alt w hD hG hGb hD1 hG2 (by omega) (by omega) he0 he1 htab
    · clear hD hG hGb htab
      have T : ∀ (a b c d e f g : Prop), ¬ (a ∧ b ∧ c ∧ d ∧ e ∧ f ∧ g) → ¬ a ∨ (a ∧ ¬ b) ∨ (a ∧ b ∧ ¬ c) ∨ (a ∧ b ∧ c ∧ ¬ d) ∨ (a ∧ b ∧ c ∧ d ∧ ¬ e) ∨ (a ∧ b ∧ c ∧ d ∧ e ∧ ¬ f) ∨ (a ∧ b ∧ c ∧ d ∧ e ∧ f ∧ ¬ g) := by
        intro a b c d e f g h
        by_cases a <;> by_cases b <;> by_cases c <;> by_cases d <;> by_cases e <;> by_cases f <;> simp_all
      rcases T _ _ _ _ _ _ _ g1 with h | ⟨h1, h⟩ | ⟨h1, h2, h⟩ | ⟨h1, h2, h3, h⟩ | ⟨h1, h2, h3, h4, h⟩ | ⟨h1, h2, h3, h4, h5, h⟩ | ⟨h1, h2, h3, h4, h5, h6, h⟩
      all_goals
        clear T g1
        go_enter Tryd.func3, Tryd.ntmps3
        go_wp2_with (go_at_call 5; go_must (refine (zzBytes5_yes _ _ _ _ _ _ _ _ _ _ (by omega)).mono ?_); rintro e w ⟨rfl, rfl⟩)
        go_ret
        exact ⟨rfl, Below.refl _ _⟩
  · go_enter Tryd.func3, Tryd.ntmps3
    go_wp2_with (go_at_call 5; go_must (refine (zzBytes5_no _ _ _ _ _ _ _ _ _ _ g0 hDm hGm).mono ?_); rintro e w ⟨rfl, rfl⟩)
    go_ret
    exact ⟨rfl, Below.refl _ _⟩
end Go.Proofs.Qxb6617989aDoor
