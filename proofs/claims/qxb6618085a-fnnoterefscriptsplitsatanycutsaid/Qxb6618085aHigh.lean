import Derived.Test.Qxb6618085aLoops
namespace Go.Proofs.Qxb6618085a
open Go.RowKit

/-- The greatest number among the nameless. -/
def stepI (o : Option Int) (r : RR) : Option Int := if r.name = ⟨#[]⟩ then (match o with | none => some r.num | some t => if t < r.num then some r.num else some t) else o
def hi (rs : List RR) : Option Int := rs.foldl stepI none
def isTop (t : Int) (r : RR) : Bool := decide (r.name = ⟨#[]⟩ ∧ r.num = t)
def hIdx (rs : List RR) : Option Nat := (hi rs).bind fun t => rs.findIdx? (isTop t)
def idxInt : Option Nat → Int
  | some j => j
  | none => -1

theorem find_found (p : RR → Bool) (rs : List RR) : ∀ k, k < rs.length → p (rs.getD k zeroRef) = true → (∀ j, j < k → p (rs.getD j zeroRef) = false) → rs.findIdx? p = some k := by
  induction rs with
  | nil => intro k h; simp at h
  | cons x rs ih =>
    intro k hk he hno
    rw [List.findIdx?_cons]
    cases k with
    | zero =>
      simp at he
      simp [he]
    | succ k =>
      have h0 := hno 0 (by omega)
      simp at h0
      simp only [h0, Bool.false_eq_true, if_false]
      rw [ih k (by simpa using hk) (by simpa using he) (fun j hj => by simpa using hno (j + 1) (by omega))]
      rfl
theorem find_none (p : RR → Bool) (rs : List RR) (h : ∀ j, j < rs.length → p (rs.getD j zeroRef) = false) : rs.findIdx? p = none := by
  rw [List.findIdx?_eq_none_iff]
  intro x hx
  obtain ⟨j, hj, rfl⟩ := List.getElem_of_mem hx
  have := h j hj
  simpa [List.getD, hj] using this

theorem hi_step (rs : List RR) (k : Nat) (h : k < rs.length) : hi (rs.take (k + 1)) = stepI (hi (rs.take k)) (rs.getD k zeroRef) := by
  have ht : rs.take (k + 1) = rs.take k ++ [rs.getD k zeroRef] := by
    rw [List.take_add_one]; simp [List.getD, h]
  rw [ht, hi, List.foldl_append]
  rfl

set_option maxHeartbeats 1000000 in
theorem highestIndex_any (a : Option Addr) (cap : Nat) (rs : List RR) (w : World) (hr : Refs w a rs) (hl : rs.length ≤ maxLen) :
    Calls Try.prog 14 #[.slice a rs.length cap] w fun e w' => e = .returned (.int .i64 (idxInt (hIdx rs))) ∧ w' = w := by
  unfold maxLen at hl
  obtain ⟨E, hE⟩ : ∃ E : Int, E = idxInt (hIdx rs) := ⟨_, rfl⟩
  rw [← hE]
  have HE := hidr hE
  have HR := hidr hr
  clear hE hr
  go_enter Try.func14, Try.ntmps14
  go_wp2
  go_loop [3, 4, 5] (fun x y z => ∃ (k : Nat) (f : Bool) (t : Int), k ≤ rs.length ∧ z = .int .i64 k ∧ x = .bool f ∧ y = .int .i64 t ∧ Hid (f = (hi (rs.take k)).isSome ∧ t = (hi (rs.take k)).getD 0)) (fun _ _ x => rs.length - (intOf x).toNat)
  case atStart => exact ⟨0, false, 0, by omega, by go_num, rfl, rfl, rfl, rfl⟩
  case round =>
    obtain ⟨k, f, t, hk, rfl, rfl, rfl, hft⟩ := hrel
    by_cases hlt : k < rs.length
    · rcases HR.out with h | ⟨b, off, rfl, hc⟩
      · rw [h] at hlt; simp at hlt
      obtain ⟨c0, c1, c2, c3⟩ := hc k hlt
      have i1 : (k : Int) < (rs.length : Int) := by omega
      have hst := hi_step rs k hlt
      obtain ⟨r, hrk⟩ : ∃ r, r = rs.getD k zeroRef := ⟨_, rfl⟩
      rw [← hrk] at c1 c2 hst
      obtain ⟨p, n, nm, tx⟩ := r
      have HST := hidr hst
      clear c0 c3 hc hrk hst
      by_cases hn : nm = ⟨#[]⟩
      · subst hn
        cases f with
        | false =>
          have HQ := hidr (show true = (hi (rs.take (k + 1))).isSome ∧ n = (hi (rs.take (k + 1))).getD 0 by
            rw [HST.out]
            cases hh : hi (rs.take k) with
            | none => simp [stepI]
            | some t => have := hft.out.1; rw [hh] at this; cases this)
          go_wp2
          go_round
          case rel => exact ⟨k + 1, true, n, by omega, by go_num, rfl, rfl, HQ⟩
          case measure => simp [intOf]; omega
        | true =>
          obtain ⟨hf1, hf2⟩ := hft.out
          have hq : hi (rs.take k) = some t := by
            cases hh : hi (rs.take k) with
            | none => rw [hh] at hf1; cases hf1
            | some t' => rw [hh] at hf2; rw [hf2]; rfl
          have HQ := hidr hq
          clear hq hf1 hf2 hft
          by_cases htn : t < n
          · have HX := hidr (show true = (hi (rs.take (k + 1))).isSome ∧ n = (hi (rs.take (k + 1))).getD 0 by
              rw [HST.out, HQ.out]; simp [stepI, htn])
            go_wp2
            go_round
            case rel => exact ⟨k + 1, true, n, by omega, by go_num, rfl, rfl, HX⟩
            case measure => simp [intOf]; omega
          · have HX := hidr (show true = (hi (rs.take (k + 1))).isSome ∧ t = (hi (rs.take (k + 1))).getD 0 by
              rw [HST.out, HQ.out]; simp [stepI, htn])
            go_wp2
            go_round
            case rel => exact ⟨k + 1, true, t, by omega, by go_num, rfl, rfl, HX⟩
            case measure => simp [intOf]; omega
      · have bn : nm.toList.isEmpty = false := toList_ne nm hn
        have bn2 : ¬ nm.toList = [] := fun e => by rw [e] at bn; cases bn
        have HX := hidr (show f = (hi (rs.take (k + 1))).isSome ∧ t = (hi (rs.take (k + 1))).getD 0 by
          rw [HST.out]; simp only [stepI, if_neg hn]; exact hft.out)
        clear hn
        go_wp2
        go_round
        case rel => exact ⟨k + 1, f, t, by omega, by go_num, rfl, rfl, HX⟩
        case measure => simp [intOf]; omega
    · obtain rfl : k = rs.length := by omega
      rw [List.take_length] at hft
      cases f with
      | false =>
        have HX := hidr (show E = -1 by
          rw [HE.out, hIdx]
          cases hh : hi rs with
          | none => rfl
          | some t => have := hft.out.1; rw [hh] at this; cases this)
        go_wp2
        go_ret
        exact ⟨by rw [HX.out]; rfl, rfl⟩
      | true =>
        obtain ⟨hf1, hf2⟩ := hft.out
        have hq : hi rs = some t := by
          cases hh : hi rs with
          | none => rw [hh] at hf1; cases hf1
          | some t' => rw [hh] at hf2; rw [hf2]; rfl
        have HQ := hidr (show E = idxInt (rs.findIdx? (isTop t)) by rw [HE.out, hIdx, hq]; rfl)
        clear hq hf1 hf2 hft
        go_wp2
        go_loop [6] (fun x => ∃ k : Nat, k ≤ rs.length ∧ x = .int .i64 k ∧ Hid (∀ j, j < k → isTop t (rs.getD j zeroRef) = false)) (fun x => rs.length - (intOf x).toNat)
        case atStart => exact ⟨0, by omega, by go_num, fun j hj => by omega⟩
        case round =>
          obtain ⟨k, hk, rfl, hno⟩ := hrel
          by_cases hlt : k < rs.length
          · rcases HR.out with h | ⟨b, off, rfl, hc⟩
            · rw [h] at hlt; simp at hlt
            obtain ⟨c0, c1, c2, c3⟩ := hc k hlt
            have i1 : (k : Int) < (rs.length : Int) := by omega
            have hfound := find_found (isTop t) rs k hlt
            obtain ⟨r, hrk⟩ : ∃ r, r = rs.getD k zeroRef := ⟨_, rfl⟩
            rw [← hrk] at c1 c2 hfound
            have HRK := hidr hrk
            obtain ⟨p, n, nm, tx⟩ := r
            have HFO := hidr hfound
            clear c0 c3 hc hrk hfound
            have next : isTop t ⟨p, n, nm, tx⟩ = false → ∀ j, j < k + 1 → isTop t (rs.getD j zeroRef) = false := fun hf j hj => by
              by_cases e : j = k
              · rw [e, ← HRK.out]; exact hf
              · exact hno.out j (by omega)
            have HNX := hidr next
            clear next
            by_cases hn : nm = ⟨#[]⟩
            · subst hn
              by_cases htn : n = t
              · subst htn
                have HX := hidr (show E = (k : Int) by rw [HQ.out, HFO.out (by simp [isTop]) hno.out]; rfl)
                go_wp2
                go_ret
                exact ⟨by rw [HX.out]; rfl, rfl⟩
              · have bt : (n == t) = false := by simp [htn]
                have HX := hidr (HNX.out (by simp [isTop, htn]))
                clear htn
                go_wp2
                go_round
                case rel => exact ⟨k + 1, by omega, by go_num, HX⟩
                case measure => simp [intOf]; omega
            · have bn : nm.toList.isEmpty = false := toList_ne nm hn
              have bn2 : ¬ nm.toList = [] := fun e => by rw [e] at bn; cases bn
              have HX := hidr (HNX.out (by simp [isTop, hn]))
              clear hn
              go_wp2
              go_round
              case rel => exact ⟨k + 1, by omega, by go_num, HX⟩
              case measure => simp [intOf]; omega
          · obtain rfl : k = rs.length := by omega
            have HX := hidr (show E = -1 by rw [HQ.out, find_none (isTop t) rs hno.out]; rfl)
            go_wp2
            go_ret
            exact ⟨by rw [HX.out]; rfl, rfl⟩
end Go.Proofs.Qxb6618085a
