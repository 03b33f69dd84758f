import Derived.Test.Qxb6618085aHigh
namespace Go.Proofs.Qxb6618085a
open Go.RowKit

def BoolSaid (e : Ending) (p : Prop) : Prop := ∃ b, e = .returned (.bool b) ∧ (b = true → p)

set_option maxHeartbeats 1000000 in
theorem zzBytes8_any (a : Option Addr) (cap : Nat) (rs : List RR) (w : World) (hr : Refs w a rs) (hl : rs.length ≤ maxLen) :
    Calls Try.prog 8 #[.slice a rs.length cap] w fun e w' => BoolSaid e (rs.length ≤ 1048576) ∧ w' = w := by
  unfold maxLen at hl
  have HR := hidr hr
  clear hr
  by_cases hbig : rs.length ≤ 1048576
  · have bd : decide (1048576 < (rs.length : Int)) = false := decide_eq_false (by omega)
    go_enter Try.func8, Try.ntmps8
    go_wp2
    go_loop [3, 4] (fun y z => ∃ (k : Nat) (t : Int), k ≤ rs.length ∧ z = .int .i64 k ∧ y = .int .i64 t ∧ 0 ≤ t ∧ t ≤ 1048576) (fun _ x => rs.length - (intOf x).toNat)
    case atStart => exact ⟨0, rs.length, by omega, by go_num, rfl, by omega, by omega⟩
    case round =>
      obtain ⟨k, t, hk, rfl, rfl, ht0, ht1⟩ := hrel
      by_cases hlt : k < rs.length
      · rcases HR.out with h | ⟨b, off, rfl, hc⟩
        · rw [h] at hlt; simp at hlt
        obtain ⟨c0, c1, c2, c3⟩ := hc k hlt
        have i1 : (k : Int) < (rs.length : Int) := by omega
        obtain ⟨nm, hnm⟩ : ∃ nm, nm = (rs.getD k zeroRef).name := ⟨_, rfl⟩
        obtain ⟨tx, htx⟩ : ∃ tx, tx = (rs.getD k zeroRef).text := ⟨_, rfl⟩
        rw [← hnm] at c2
        rw [← htx] at c3
        clear hnm htx c0 c1 hc
        go_wp2
        all_goals first
          | (go_ret; exact ⟨⟨_, rfl, fun h => by cases h⟩, rfl⟩)
          | skip
        go_round
        case rel => exact ⟨k + 1, t + nm.size + tx.size, by omega, by go_num, rfl, by omega, by omega⟩
        case measure => simp [intOf]; omega
      · obtain rfl : k = rs.length := by omega
        go_wp2
        go_ret
        exact ⟨⟨_, rfl, fun _ => trivial⟩, rfl⟩
  · go_enter Try.func8, Try.ntmps8
    go_wp2
    go_ret
    exact ⟨⟨_, rfl, fun h => by cases h⟩, rfl⟩

set_option maxHeartbeats 1000000 in
theorem refsSize_any (a : Option Addr) (cap : Nat) (rs : List RR) (w : World) (hr : Refs w a rs) (hl : rs.length ≤ 1048576) :
    Calls Try.prog 9 #[.slice a rs.length cap] w fun e w' => ∃ (t : Int) (q : Nat), e = .returned (.int .i64 t) ∧ (0 ≤ t ∧ t ≤ 1048577) ∧ w' = w.drewN q := by
  have HR := hidr hr
  clear hr
  go_enter Try.func9, Try.ntmps9
  go_wp2
  go_loopw [3, 4] (fun y z wr => ∃ (k : Nat) (t : Int), k ≤ rs.length ∧ z = .int .i64 k ∧ y = .int .i64 t ∧ 0 ≤ t ∧ t ≤ 1048576 ∧ ∃ q, wr = w.drewN q) (fun _ x _ => rs.length - (intOf x).toNat)
  case atStart => exact ⟨0, 0, by omega, by go_num, rfl, by omega, by omega, 0, rfl⟩
  case round =>
    obtain ⟨k, t, hk, rfl, rfl, ht0, ht1, q, rfl⟩ := hrel
    by_cases hlt : k < rs.length
    · rcases HR.out with h | ⟨b, off, rfl, hc⟩
      · rw [h] at hlt; simp at hlt
      obtain ⟨c0, c1, c2, c3⟩ := hc k hlt
      have i1 : (k : Int) < (rs.length : Int) := by omega
      obtain ⟨nm, hnm⟩ : ∃ nm, nm = (rs.getD k zeroRef).name := ⟨_, rfl⟩
      obtain ⟨tx, htx⟩ : ∃ tx, tx = (rs.getD k zeroRef).text := ⟨_, rfl⟩
      rw [← hnm] at c2
      rw [← htx] at c3
      clear hnm htx c0 c1 hc
      by_cases g1 : nm.size ≤ 1048576
      · have d1 : decide (1048576 < (nm.size : Int)) = false := decide_eq_false (by omega)
        by_cases g2 : tx.size ≤ 1048576
        · have d2 : decide (1048576 < (tx.size : Int)) = false := decide_eq_false (by omega)
          go_wp2
          go_quiet (fail)
          go_wp2
          · go_ret
            exact ⟨_, _, rfl, ⟨by omega, by omega⟩, rfl⟩
          · go_roundw
            case rel => exact ⟨k + 1, t + (48 + nm.size + tx.size), by omega, by go_num, rfl, by omega, by omega, _, rfl⟩
            case measure => simp [intOf]; omega
        · have d2 : decide (1048576 < (tx.size : Int)) = true := decide_eq_true (by omega)
          go_wp2
          go_ret
          exact ⟨_, _, rfl, ⟨by omega, by omega⟩, rfl⟩
      · have d1 : decide (1048576 < (nm.size : Int)) = true := decide_eq_true (by omega)
        go_wp2
        go_ret
        exact ⟨_, _, rfl, ⟨by omega, by omega⟩, rfl⟩
    · obtain rfl : k = rs.length := by omega
      go_wp2
      go_ret
      exact ⟨_, _, rfl, ⟨by omega, by omega⟩, rfl⟩
end Go.Proofs.Qxb6618085a
