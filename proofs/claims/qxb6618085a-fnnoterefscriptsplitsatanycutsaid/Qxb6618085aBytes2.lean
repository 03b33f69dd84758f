import Derived.Test.Qxb6618085aBytes
namespace Go.Proofs.Qxb6618085a
open Go.RowKit

set_option maxHeartbeats 4000000 in
theorem zzBytes19_any (a : Option Addr) (cap : Nat) (rs : List RR) (a1 : Option Addr) (cap1 : Nat) (qs : List RR) (w : World) (hr : Refs w a rs) (hq : Refs w a1 qs) (hl : rs.length ≤ maxLen) (hl1 : qs.length ≤ maxLen) :
    Calls Try.prog 19 #[.slice a rs.length cap, .slice a1 qs.length cap1] w fun e w' => BoolSaid e (rs.length ≤ 1048576 ∧ qs.length ≤ 1048576) ∧ w' = w := by
  unfold maxLen at hl hl1
  have HR := hidr hr
  have HQ := hidr hq
  clear hr hq
  obtain ⟨pp, hpp⟩ : ∃ pp, pp = (rs.length ≤ 1048576 ∧ qs.length ≤ 1048576) := ⟨_, rfl⟩
  rw [← hpp]
  have HPP := hidr hpp
  clear hpp
  by_cases hbig : rs.length ≤ 1048576
  · have bd : decide (1048576 < (rs.length : Int)) = false := decide_eq_false (by omega)
    go_enter Try.func19, Try.ntmps19
    go_wp2
    go_loop [5, 6] (fun y z => ∃ (k : Nat) (t : Int), k ≤ rs.length ∧ z = .int .i64 k ∧ y = .int .i64 t ∧ 0 ≤ t ∧ t ≤ 1048576) (fun _ x => rs.length - (intOf x).toNat)
    case atStart => exact ⟨0, rs.length, by omega, by go_num, rfl, by omega, by omega⟩
    case round =>
      obtain ⟨k, t, hk, rfl, rfl, ht0, ht1⟩ := hrel
      by_cases hlt : k < rs.length
      · rcases HR.out with h | ⟨b, off, rfl, hc⟩
        · rw [h] at hlt; simp at hlt
        obtain ⟨c0, c1, c2, c3⟩ := hc k hlt
        have i1 : (k : Int) < (rs.length : Int) := by omega
        obtain ⟨nm, hnm⟩ : ∃ nm, nm = (rs.getD k zeroRef).name := ⟨_, rfl⟩
        obtain ⟨tx, htx⟩ : ∃ tx, tx = (rs.getD k zeroRef).text := ⟨_, rfl⟩
        rw [← hnm] at c2
        rw [← htx] at c3
        clear hnm htx c0 c1 hc
        go_wp2
        all_goals first
          | (go_ret; exact ⟨⟨_, rfl, fun h => by cases h⟩, rfl⟩)
          | skip
        go_round
        case rel => exact ⟨k + 1, t + nm.size + tx.size, by omega, by go_num, rfl, by omega, by omega⟩
        case measure => simp [intOf]; omega
      · obtain rfl : k = rs.length := by omega
        by_cases hbig1 : qs.length ≤ 1048576
        · have bd1 : decide (1048576 < (qs.length : Int)) = false := decide_eq_false (by omega)
          by_cases hs : t + qs.length ≤ 1048576
          · have bs : decide (1048576 < t + (qs.length : Int)) = false := decide_eq_false (by omega)
            go_wp2
            go_loop [5, 7] (fun y z => ∃ (k : Nat) (t : Int), k ≤ qs.length ∧ z = .int .i64 k ∧ y = .int .i64 t ∧ 0 ≤ t ∧ t ≤ 1048576) (fun _ x => qs.length - (intOf x).toNat)
            case atStart => exact ⟨0, t + qs.length, by omega, by go_num, rfl, by omega, by omega⟩
            case round =>
              obtain ⟨k, t', hk, rfl, rfl, ht0', ht1'⟩ := hrel
              by_cases hlt : k < qs.length
              · rcases HQ.out with h | ⟨b, off, rfl, hc⟩
                · rw [h] at hlt; simp at hlt
                obtain ⟨c0, c1, c2, c3⟩ := hc k hlt
                have i1 : (k : Int) < (qs.length : Int) := by omega
                obtain ⟨nm, hnm⟩ : ∃ nm, nm = (qs.getD k zeroRef).name := ⟨_, rfl⟩
                obtain ⟨tx, htx⟩ : ∃ tx, tx = (qs.getD k zeroRef).text := ⟨_, rfl⟩
                rw [← hnm] at c2
                rw [← htx] at c3
                clear hnm htx c0 c1 hc
                go_wp2
                all_goals first
                  | (go_ret; exact ⟨⟨_, rfl, fun h => by cases h⟩, rfl⟩)
                  | skip
                go_round
                case rel => exact ⟨k + 1, t' + nm.size + tx.size, by omega, by go_num, rfl, by omega, by omega⟩
                case measure => simp [intOf]; omega
              · obtain rfl : k = qs.length := by omega
                go_wp2
                go_ret
                exact ⟨⟨_, rfl, fun _ => by rw [HPP.out]; exact ⟨hbig, hbig1⟩⟩, rfl⟩
          · have bs : decide (1048576 < t + (qs.length : Int)) = true := decide_eq_true (by omega)
            go_wp2
            go_ret
            exact ⟨⟨_, rfl, fun h => by cases h⟩, rfl⟩
        · go_wp2
          go_ret
          exact ⟨⟨_, rfl, fun h => by cases h⟩, rfl⟩
  · go_enter Try.func19, Try.ntmps19
    go_wp2
    go_ret
    exact ⟨⟨_, rfl, fun h => by cases h⟩, rfl⟩
end Go.Proofs.Qxb6618085a
