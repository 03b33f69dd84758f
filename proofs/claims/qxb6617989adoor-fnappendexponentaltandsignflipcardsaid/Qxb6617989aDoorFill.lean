import Derived.Test.Qxb6617989aDoorBase
namespace Go.Proofs.Qxb6617989aDoor
open Go.RowKit

theorem rep_snoc (xs : List Value) (j : Nat) : xs ++ List.replicate (j + 1) (Value.int .u8 48) = xs ++ (List.replicate j (Value.int .u8 48) ++ [Value.int .u8 48]) := by
  rw [List.replicate_succ']

set_option maxHeartbeats 400000 in
theorem appendFill_zero (B nn k : Nat) (sv : Value) (xs : List Value) (w : World) (hown : w.ownsRow B 5 1 sv nn xs) (hB : B ≤ w.heap.size) (hlim : nn + k ≤ 1048576) :
    Calls Tryd.prog 12 #[sv, .string ⟨#[48]⟩, .int .i64 k] w fun e w' => ∃ v', e = .returned v' ∧ w'.ownsRow B 5 1 v' (nn + k) (xs ++ List.replicate k (.int .u8 48)) ∧ Below B w w' := by
  obtain ⟨i0, hi, hz0, hz1, hz2⟩ := info_parts Tryd.info5
  go_enter Tryd.func12, Tryd.ntmps12
  go_wp2
  go_loopw [0, 20] (fun v i wr => ∃ j : Nat, j ≤ k ∧ i = .int .i64 j ∧ wr.ownsRow B 5 1 v (nn + j) (xs ++ List.replicate j (.int .u8 48)) ∧ Below B w wr) (fun _ i _ => k - (intOf i).toNat)
  case atStart => exact ⟨0, Nat.zero_le _, rfl, by simpa using hown, Below.refl _ _⟩
  case round =>
    obtain ⟨j, hj, rfl, hown1, hb⟩ := hrel
    have hbs := hb.size
    by_cases hlt : j < k
    · go_wp2_with (at_builtin; refine wpList_append_own _ rfl _ _ 22 rfl B 5 i0 (.int .u8 0) 1 1 Tryd.underlying22 hi hz0 hz1 hz2 rfl (by decide) _ _ _ rfl (hown1.alloc _) ⟨wr.heap.size, 0, none⟩ 1 1 [.int .u8 48] rfl rfl (cell_one_new _ _ _) (by intro u hu; simp at hu; subst hu; rfl) (by unfold maxLen; omega) (by omega) (by simp; omega) ?_)
      intro v' w1 hown' hgrow _
      have hb' : Below B w w1 := (hb.alloc (by omega) _).grown hgrow (by simp; omega) (fun q hq => (hown1.lt q hq).1)
      rw [← rep_snoc, Nat.add_assoc] at hown'
      clear hown1 hgrow hb
      go_wp2
      go_roundw
      case rel => exact ⟨j + 1, by omega, by go_num, hown', hb'⟩
      case measure => simp [intOf]; omega
    · obtain rfl : j = k := by omega
      go_wp2
      go_ret
      exact ⟨_, rfl, hown1, hb⟩
end Go.Proofs.Qxb6617989aDoor
