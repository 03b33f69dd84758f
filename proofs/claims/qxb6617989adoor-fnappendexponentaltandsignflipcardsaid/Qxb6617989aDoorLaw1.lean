import Derived.Test.Qxb6617989aDoorInt
namespace Go.Proofs.Qxb6617989aDoor
open Go.RowKit

set_option maxHeartbeats 400000 in
theorem zzBytes5_yes (a0 a1 : Option Addr) (l0 c0 l1 c1 : Nat) (n ex : Int) (alt : Bool) (w : World) (h : l0 + l1 ≤ 1048576) :
    Calls Tryd.prog 5 #[.slice a0 l0 c0, .slice a1 l1 c1, .int .i64 n, .int .i64 ex, .bool alt] w fun e w' => e = .returned (.bool true) ∧ w' = w := by
  go_enter Tryd.func5, Tryd.ntmps5
  go_wp2
  go_ret
  exact ⟨rfl, rfl⟩

set_option maxHeartbeats 400000 in
theorem zzBytes5_no (a0 a1 : Option Addr) (l0 c0 l1 c1 : Nat) (n ex : Int) (alt : Bool) (w : World) (h : ¬ l0 + l1 ≤ 1048576) (h0 : l0 ≤ maxLen) (h1 : l1 ≤ maxLen) :
    Calls Tryd.prog 5 #[.slice a0 l0 c0, .slice a1 l1 c1, .int .i64 n, .int .i64 ex, .bool alt] w fun e w' => e = .returned (.bool false) ∧ w' = w := by
  unfold maxLen at h0 h1
  by_cases g0 : l0 ≤ 1048576
  · by_cases g1 : l1 ≤ 1048576
    · go_enter Tryd.func5, Tryd.ntmps5
      go_wp2
      go_ret
      exact ⟨rfl, rfl⟩
    · go_enter Tryd.func5, Tryd.ntmps5
      go_wp2
      go_ret
      exact ⟨rfl, rfl⟩
  · go_enter Tryd.func5, Tryd.ntmps5
    go_wp2
    go_ret
    exact ⟨rfl, rfl⟩
end Go.Proofs.Qxb6617989aDoor
