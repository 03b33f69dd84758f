import Derived.Test.Qxb6617989aDoorPlain
namespace Go.Proofs.Qxb6617989aDoor
open Go.RowKit

set_option maxHeartbeats 400000 in
theorem zzBytes9_yes (a0 a1 : Option Addr) (l0 c0 l1 c1 : Nat) (n ex : Int) (w : World) (h : l0 + l1 ≤ 1048576) :
    Calls Tryd.prog 9 #[.slice a0 l0 c0, .slice a1 l1 c1, .int .i64 n, .int .i64 ex] w fun e w' => e = .returned (.bool true) ∧ w' = w := by
  go_enter Tryd.func9, Tryd.ntmps9
  go_wp2
  go_ret
  exact ⟨rfl, rfl⟩

set_option maxHeartbeats 400000 in
theorem zzBytes9_no (a0 a1 : Option Addr) (l0 c0 l1 c1 : Nat) (n ex : Int) (w : World) (h : ¬ l0 + l1 ≤ 1048576) (h0 : l0 ≤ maxLen) (h1 : l1 ≤ maxLen) :
    Calls Tryd.prog 9 #[.slice a0 l0 c0, .slice a1 l1 c1, .int .i64 n, .int .i64 ex] w fun e w' => e = .returned (.bool false) ∧ w' = w := by
  unfold maxLen at h0 h1
  by_cases g0 : l0 ≤ 1048576
  · by_cases g1 : l1 ≤ 1048576
    · go_enter Tryd.func9, Tryd.ntmps9
      go_wp2
      go_ret
      exact ⟨rfl, rfl⟩
    · go_enter Tryd.func9, Tryd.ntmps9
      go_wp2
      go_ret
      exact ⟨rfl, rfl⟩
  · go_enter Tryd.func9, Tryd.ntmps9
    go_wp2
    go_ret
    exact ⟨rfl, rfl⟩

theorem dec_len_big {v : Nat} (h : ¬ v < 10) : (dec v).length = (dec (v / 10)).length + 1 := by rw [dec_big h]; simp
theorem dec_len_small {v : Nat} (h : v < 10) : (dec v).length = 1 := by rw [dec_small h]; simp

set_option maxHeartbeats 400000 in
theorem decLen_any (u : Nat) (w : World) (hu : u ≤ 1073741824) :
    Calls Tryd.prog 10 #[.int .i64 u] w fun e w' => e = .returned (.int .i64 (dec u).length) ∧ w' = w := by
  obtain ⟨k, hk⟩ : ∃ k, k = (dec u).length := ⟨_, rfl⟩
  have hk10 : k ≤ 10 := by rw [hk]; exact dec_le 9 u (by omega)
  rw [← hk]
  have HK := hid hk
  clear hk
  go_enter Tryd.func10, Tryd.ntmps10
  go_wp2
  go_loop [0, 3] (fun m c => ∃ v j : Nat, v ≤ u ∧ m = .int .i64 v ∧ c = .int .i64 j ∧ Hid (j + (dec v).length = k + 1)) (fun m _ => (intOf m).toNat)
  case atStart => exact ⟨u, 1, Nat.le_refl _, rfl, rfl, by show _ = _; rw [HK.out]; omega⟩
  case round =>
    obtain ⟨v, j, hv, rfl, rfl, hj⟩ := hrel
    have hp := dec_pos v
    have hjk : j ≤ 10 := by have := hj.out; omega
    clear hp
    by_cases h : v < 10
    · have hd := dec_len_small h
      have e : j = k := by have := hj.out; omega
      clear hd
      go_wp2
      go_ret
      exact ⟨rfl, rfl⟩
    · have H2 := hid (dec_len_big h)
      go_wp2
      go_round
      case rel => exact ⟨v / 10, j + 1, by omega, by go_num, by go_num, by show _ = _; have := H2.out; have := hj.out; omega⟩
      case measure => simp [intOf]; omega
end Go.Proofs.Qxb6617989aDoor
