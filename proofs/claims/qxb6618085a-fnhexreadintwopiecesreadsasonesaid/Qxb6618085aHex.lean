import Derived.Test.Qxb6618085aHexPlain
import Derived.WalkSpells
import Derived.WalkLawsBesides
import Derived.Laws.CopyOwn
import Derived.Deep.QuietTactic
import Derived.BigQuiet
import Derived.Deep.DeepCutAuto
namespace Go.Proofs.Qxb6618085a
open Go.RowKit

theorem hid {p : Prop} (h : p) : Hid p := h
theorem ret_int {k : IntKind} {a b : Int} (h : a = b) : Ending.returned (.int k a) = .returned (.int k b) := by rw [h]

set_option maxHeartbeats 400000 in
theorem hexValue_any (c : Int) (w : World) (h0 : -2147483648 ≤ c) (h1 : c ≤ 2147483647) :
    Calls Try.prog 36 #[.int .i32 c] w fun e w' => e = .returned (.int .i32 (hv c)) ∧ w' = w := by
  by_cases a : 48 ≤ c ∧ c ≤ 57
  · have e : hv c = c - 48 := by unfold hv; rw [if_pos a]
    rw [e]; clear e
    obtain ⟨a1, a2⟩ := a
    go_enter Try.func36, Try.ntmps36
    go_wp2
    go_ret
    exact ⟨rfl, rfl⟩
  · by_cases b : 97 ≤ c ∧ c ≤ 102
    · have e : hv c = c - 87 := by unfold hv; rw [if_neg a, if_pos b]
      rw [e]; clear e
      obtain ⟨b1, b2⟩ := b
      clear a
      go_enter Try.func36, Try.ntmps36
      go_wp2
      go_ret
      exact ⟨ret_int (by omega), rfl⟩
    · by_cases d : 65 ≤ c ∧ c ≤ 70
      · have e : hv c = c - 55 := by unfold hv; rw [if_neg a, if_neg b, if_pos d]
        rw [e]; clear e
        obtain ⟨d1, d2⟩ := d
        clear a b
        go_enter Try.func36, Try.ntmps36
        go_wp2
        go_ret
        exact ⟨ret_int (by omega), rfl⟩
      · have e : hv c = -1 := by unfold hv; rw [if_neg a, if_neg b, if_neg d]
        rw [e]; clear e
        go_enter Try.func36, Try.ntmps36
        go_wp2
        all_goals (go_ret; exact ⟨rfl, rfl⟩)

theorem tab_fin : ∀ k : Fin 22, (((⟨#[48, 49, 50, 51, 52, 53, 54, 55, 56, 57, 97, 98, 99, 100, 101, 102, 65, 66, 67, 68, 69, 70]⟩ : ByteArray)[k.val]'k.isLt).toNat : Int) = tb k.val := by decide +kernel
theorem wrap32_small (a : Int) (h0 : 0 ≤ a) (h1 : a ≤ 255) : wrap32 a = a := by unfold wrap32; omega
theorem tab_at (k : Nat) (h : k < (⟨#[48, 49, 50, 51, 52, 53, 54, 55, 56, 57, 97, 98, 99, 100, 101, 102, 65, 66, 67, 68, 69, 70]⟩ : ByteArray).size) :
    wrap32 (((⟨#[48, 49, 50, 51, 52, 53, 54, 55, 56, 57, 97, 98, 99, 100, 101, 102, 65, 66, 67, 68, 69, 70]⟩ : ByteArray)[k]'h).toNat : Int) = tb k := by
  have h22 : k < 22 := h
  have := tab_fin ⟨k, h22⟩
  rw [show ((((⟨#[48, 49, 50, 51, 52, 53, 54, 55, 56, 57, 97, 98, 99, 100, 101, 102, 65, 66, 67, 68, 69, 70]⟩ : ByteArray)[k]'h).toNat : Int)) = tb k from this]
  have r := tb_range k h22
  exact wrap32_small _ (by omega) (by omega)

set_option maxHeartbeats 400000 in
theorem hexDigitOf_any (c : Int) (w : World) :
    Calls Try.prog 33 #[.int .i32 c] w fun e w' => e = .returned (.int .i64 (hv c)) ∧ w' = w := by
  go_enter Try.func33, Try.ntmps33
  go_wp2
  go_loop [3] (fun i => ∃ k : Nat, k ≤ 22 ∧ i = .int .i64 k ∧ Hid (∀ j, j < k → tb j ≠ c)) (fun i => 22 - (intOf i).toNat)
  case atStart => exact ⟨0, by omega, rfl, fun j hj => by omega⟩
  case round =>
    obtain ⟨k, hk, rfl, hj⟩ := hrel
    by_cases hlt : k < 22
    · have hi : (k : Int) < 22 := by omega
      go_wp2
      · have hq := beq_iff_eq.1 ‹(wrap32 _ == c) = true›
        rw [tab_at] at hq
        go_ret
        exact ⟨ret_int (by rw [← hq, hv_tb k hlt, if_pos (by omega)]), rfl⟩
      · have hq := beq_iff_eq.1 ‹(wrap32 _ == c) = true›
        rw [tab_at] at hq
        go_ret
        exact ⟨ret_int (by rw [← hq, hv_tb k hlt, if_neg (by omega)]), rfl⟩
      · have hq := beq_eq_false_iff_ne.1 ‹(wrap32 _ == c) = false›
        rw [tab_at] at hq
        go_round
        case rel =>
          refine ⟨k + 1, by omega, by go_num, fun j hj2 => ?_⟩
          by_cases e : j = k
          · rw [e]; exact hq
          · exact hj.out j (by omega)
        case measure => simp [intOf]; omega
    · go_wp2
      go_ret
      exact ⟨ret_int (hv_none c (fun j hj2 => hj.out j (by omega))).symm, rfl⟩
end Go.Proofs.Qxb6618085a
