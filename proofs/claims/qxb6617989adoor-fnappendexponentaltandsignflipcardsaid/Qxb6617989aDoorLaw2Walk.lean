import Derived.Test.Qxb6617989aDoorLaw2Main
import Derived.Test.Qxb6617989aDoorLaid
namespace Go.Proofs.Qxb6617989aDoor
open Go.RowKit

set_option maxRecDepth 100000 in
set_option maxHeartbeats 1000000 in
theorem law2_walk (a0 a1 : Option Addr) (l0 c0 l1 c1 : Nat) (z0 z1 : List Int) (n ex : Int) (w : World) (r0 : IsRow .u8 w a0 l0 c0 z0) (r1 : IsRow .u8 w a1 l1 c1 z1) (htab : Tab w) :
    Calls Tryd.prog 4 #[.slice a0 l0 c0, .slice a1 l1 c1, .int .i64 n, .int .i64 ex] w fun e w' => e = .returned (.bool true) ∧ Below w.heap.size w w' := by
  obtain ⟨D, rfl, hDm, hD, -⟩ := r0.row
  obtain ⟨G, rfl, hGm, hG, -⟩ := r1.row
  clear r0 r1
  by_cases g0 : D.length + G.length ≤ 1048576
  · by_cases g1 : D.length ≤ 65536 ∧ G.length ≤ 65536 ∧ n ≤ 65536 ∧ -1073741824 ≤ ex ∧ ex ≤ 1073741824 ∧ 1 ≤ G.length ∧ (G.length : Int) ≤ n
    · obtain ⟨hD1, hG1, hn, he0, he1, hG2, hGn⟩ := g1
      obtain ⟨m, rfl⟩ := Int.eq_ofNat_of_zero_le (show 0 ≤ n by omega)
      rcases hG with hG | ⟨b, off, rfl, hG⟩
      · rw [hG] at hG2; simp at hG2
      exact law2_main a0 c0 b off c1 D G m ex w hD hG hD1 hG2 (by omega) (by omega) he0 he1 htab
    · clear hD hG htab
      have T : ∀ (a b c d e f g : Prop), ¬ (a ∧ b ∧ c ∧ d ∧ e ∧ f ∧ g) → ¬ a ∨ (a ∧ ¬ b) ∨ (a ∧ b ∧ ¬ c) ∨ (a ∧ b ∧ c ∧ ¬ d) ∨ (a ∧ b ∧ c ∧ d ∧ ¬ e) ∨ (a ∧ b ∧ c ∧ d ∧ e ∧ ¬ f) ∨ (a ∧ b ∧ c ∧ d ∧ e ∧ f ∧ ¬ g) := by
        intro a b c d e f g h
        by_cases a <;> by_cases b <;> by_cases c <;> by_cases d <;> by_cases e <;> by_cases f <;> simp_all
      rcases T _ _ _ _ _ _ _ g1 with h | ⟨h1, h⟩ | ⟨h1, h2, h⟩ | ⟨h1, h2, h3, h⟩ | ⟨h1, h2, h3, h4, h⟩ | ⟨h1, h2, h3, h4, h5, h⟩ | ⟨h1, h2, h3, h4, h5, h6, h⟩
      all_goals
        clear T g1
        go_enter Tryd.func4, Tryd.ntmps4
        go_wp2_with (go_at_call 9; go_must (refine (zzBytes9_yes _ _ _ _ _ _ _ _ _ (by omega)).mono ?_); rintro e w ⟨rfl, rfl⟩)
        go_ret
        exact ⟨rfl, Below.refl _ _⟩
  · go_enter Tryd.func4, Tryd.ntmps4
    go_wp2_with (go_at_call 9; go_must (refine (zzBytes9_no _ _ _ _ _ _ _ _ _ g0 hDm hGm).mono ?_); rintro e w ⟨rfl, rfl⟩)
    go_ret
    exact ⟨rfl, Below.refl _ _⟩
end Go.Proofs.Qxb6617989aDoor
