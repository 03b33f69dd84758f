import Derived.Test.Qxb6618320aLawBefore
namespace Go.Proofs.Qxb6618320a
open Go.RowKit

/-- The run of backslashes directly before q, never reaching i. -/
def run (l : List Int) (i : Nat) : Nat → Nat
  | 0 => 0
  | q + 1 => if i < q ∧ l.getD q 0 = 92 then run l i q + 1 else 0

theorem run_le (l : List Int) (i : Nat) : ∀ q, run l i q ≤ q
  | 0 => Nat.le_refl _
  | q + 1 => by
    have := run_le l i q
    simp only [run]
    split <;> omega

theorem run_start (l : List Int) (i : Nat) : run l i (i + 1) = 0 := by simp [run]

/-- The parity of a run, as the scanner's state. -/
def odd (n : Nat) : Bool := decide (n % 2 = 1)
theorem odd_succ (n : Nat) : odd (n + 1) = !odd n := by
  unfold odd
  by_cases h : n % 2 = 1
  · rw [decide_eq_true h, decide_eq_false (by omega)]; rfl
  · rw [decide_eq_false h, decide_eq_true (by omega)]; rfl

theorem scanE_92 (e : Bool) (r : List Int) : scanE e (92 :: r) = 1 + scanE (!e) r := by cases e <;> simp [scanE]
theorem scanE_other (e : Bool) (c : Int) (r : List Int) (h1 : c ≠ 92) (h2 : c ≠ 34 ∨ e = true) : scanE e (c :: r) = 1 + scanE false r := by
  cases e
  · rcases h2 with h2 | h2
    · simp [scanE, h1, h2]
    · cases h2
  · simp [scanE]

/-- One byte that closes nothing: on to the next. -/
theorem par_next (l : List Int) (i q : Nat) (hi : i < q) (hq : q < l.length) (h : l.getD q 0 ≠ 34 ∨ odd (run l i q) = true) :
    q + scanE (odd (run l i q)) (l.drop q) = q + 1 + scanE (odd (run l i (q + 1))) (l.drop (q + 1)) := by
  rw [drop_at l q hq]
  by_cases h92 : l.getD q 0 = 92
  · rw [h92, scanE_92]
    have : run l i (q + 1) = run l i q + 1 := by simp only [run]; rw [if_pos ⟨hi, h92⟩]
    rw [this, odd_succ]
    omega
  · rw [scanE_other _ _ _ h92 h]
    have : run l i (q + 1) = 0 := by simp only [run]; rw [if_neg (fun hh => h92 hh.2)]
    rw [this]
    have e : odd 0 = false := rfl
    rw [e]
    omega

theorem par_quote (l : List Int) (i q : Nat) (hq : q < l.length) (h : l.getD q 0 = 34) (he : odd (run l i q) = false) : q + scanE (odd (run l i q)) (l.drop q) = q + 1 := by
  rw [drop_at l q hq, h, he]
  simp [scanE]

theorem tmod_even (k : Nat) (h : k % 2 = 0) : ((k : Int) % 2 == 0) = true := by
  rw [beq_iff_eq]; omega
theorem tmod_odd (k : Nat) (h : k % 2 = 1) : ((k : Int) % 2 == 0) = false := by
  rw [beq_eq_false_iff_ne]; omega

set_option maxHeartbeats 1600000 in
theorem parity_any (a : Option Addr) (len cap : Nat) (l : List Int) (i : Nat) (w : World) (hr : Row w a l) (hlen : len = l.length) (hl : l.length ≤ 1048578) (hi : i < l.length) :
    Calls Try.prog 7 #[.slice a len cap, .int .i64 i] w fun e w' => e = .returned (.int .i64 (SE l i)) ∧ w' = w := by
  subst hlen
  rcases hr with hr | ⟨b, off, rfl, hr⟩
  · rw [hr] at hi; simp at hi
  have HR := hid hr
  clear hr
  obtain ⟨E, hE⟩ : ∃ E, E = SE l i := ⟨_, rfl⟩
  rw [← hE]
  have HE := hid hE
  clear hE
  go_enter Try.func7, Try.ntmps7
  go_wp2
  go_loop [5] (fun x => ∃ q : Nat, i < q ∧ q ≤ l.length ∧ x = .int .i64 q ∧ Hid (E = q + scanE (odd (run l i q)) (l.drop q))) (fun x => l.length - (intOf x).toNat)
  case atStart => exact ⟨i + 1, by omega, by omega, by go_num, by show _ = _; rw [HE.out, SE, run_start]; rfl⟩
  case round =>
    obtain ⟨q, hiq, hq, rfl, hE⟩ := hrel
    by_cases hlt : q < l.length
    · have hc := HR.out q hlt
      obtain ⟨c, hcd⟩ : ∃ c, c = l.getD q 0 := ⟨_, rfl⟩
      rw [← hcd] at hc
      have HC := hid hcd
      clear hcd
      have i1 : (q : Int) < (l.length : Int) := by omega
      by_cases h34 : c = 34
      · subst h34
        go_wp2
        go_loop [6] (fun x => ∃ k : Nat, k ≤ q ∧ x = .int .i64 k ∧ Hid (run l i q = k + run l i (q - k))) (fun x => q - (intOf x).toNat)
        case atStart => exact ⟨0, Nat.zero_le _, rfl, by show _ = _; simp⟩
        case round =>
          obtain ⟨k, hk, rfl, hrun⟩ := hrel
          by_cases hin : i < q - 1 - k
          · have j1 : (i : Int) < (q : Int) - 1 - (k : Int) := by omega
            have j2 : (0 : Int) ≤ (q : Int) - 1 - (k : Int) := by omega
            have j3 : (q : Int) - 1 - (k : Int) < (l.length : Int) := by omega
            have j4 : ((q : Int) - 1 - (k : Int)).toNat = q - 1 - k := by omega
            have hc2 := HR.out (q - 1 - k) (by omega)
            obtain ⟨d, hd⟩ : ∃ d, d = l.getD (q - 1 - k) 0 := ⟨_, rfl⟩
            rw [← hd] at hc2
            have HD := hid hd
            clear hd
            by_cases h92 : d = 92
            · subst h92
              have HN := hid (show run l i q = (k + 1) + run l i (q - (k + 1)) by
                rw [hrun.out]
                have e : q - k = (q - 1 - k) + 1 := by omega
                rw [e, run, if_pos ⟨hin, HD.out.symm⟩]
                have e2 : q - (k + 1) = q - 1 - k := by omega
                rw [e2]
                omega)
              go_wp2
              go_round
              case rel => exact ⟨k + 1, by omega, by go_num, HN⟩
              case measure => simp [intOf]; omega
            · have HN := hid (show run l i q = k by
                rw [hrun.out]
                have e : q - k = (q - 1 - k) + 1 := by omega
                rw [e, run, if_neg (fun hh => h92 (HD.out.trans hh.2)), Nat.add_zero])
              have b92 : (d == 92) = false := by simp [h92]
              clear h92
              rcases Nat.mod_two_eq_zero_or_one k with hk2 | hk2
              · have b2 : ((k : Int) % 2 == 0) = true := tmod_even k hk2
                have HF := hid (show E = q + 1 by
                  rw [hE.out]
                  exact par_quote l i q hlt HC.out.symm (by rw [HN.out, odd, decide_eq_false (by omega)]))
                clear hk2
                go_wp2
                go_ret
                exact ⟨ret_int (by rw [HF.out]; omega), rfl⟩
              · have b2 : ((k : Int) % 2 == 0) = false := tmod_odd k hk2
                have HF := hid (par_next l i q hiq hlt (.inr (by rw [HN.out, odd, decide_eq_true hk2])))
                clear hk2
                go_wp2
                go_round
                case rel => exact ⟨q + 1, by omega, by omega, by go_num, by show _ = _; rw [hE.out, HF.out]⟩
                case measure => simp [intOf]; omega
          · have HN := hid (show run l i q = k by
              rw [hrun.out]
              by_cases hk0 : q - k = 0
              · rw [hk0]; rfl
              have e : q - k = (q - 1 - k) + 1 := by omega
              rw [e, run, if_neg (fun hh => hin hh.1), Nat.add_zero])
            have j1 : ¬ ((i : Int) < (q : Int) - 1 - (k : Int)) := by omega
            rcases Nat.mod_two_eq_zero_or_one k with hk2 | hk2
            · have b2 : ((k : Int) % 2 == 0) = true := tmod_even k hk2
              have HF := hid (show E = q + 1 by
                rw [hE.out]
                exact par_quote l i q hlt HC.out.symm (by rw [HN.out, odd, decide_eq_false (by omega)]))
              clear hk2
              go_wp2
              go_ret
              exact ⟨ret_int (by rw [HF.out]; omega), rfl⟩
            · have b2 : ((k : Int) % 2 == 0) = false := tmod_odd k hk2
              have HF := hid (par_next l i q hiq hlt (.inr (by rw [HN.out, odd, decide_eq_true hk2])))
              clear hk2
              go_wp2
              go_round
              case rel => exact ⟨q + 1, by omega, by omega, by go_num, by show _ = _; rw [hE.out, HF.out]⟩
              case measure => simp [intOf]; omega
      · have b34 : (c != 34) = true := by simp [h34]
        have HN := hid (par_next l i q hiq hlt (.inl (by rw [← HC.out]; exact h34)))
        clear h34
        go_wp2
        go_round
        case rel => exact ⟨q + 1, by omega, by omega, by go_num, by show _ = _; rw [hE.out, HN.out]⟩
        case measure => simp [intOf]; omega
    · obtain rfl : q = l.length := by omega
      have HF := hid (show E = l.length by
        have := hE.out
        rw [List.drop_eq_nil_of_le (Nat.le_refl _)] at this
        have e : ∀ e, scanE e [] = 0 := by intro e; cases e <;> rfl
        rw [e] at this
        exact this)
      go_wp2
      go_ret
      exact ⟨ret_int (by rw [HF.out]), rfl⟩
end Go.Proofs.Qxb6618320a
