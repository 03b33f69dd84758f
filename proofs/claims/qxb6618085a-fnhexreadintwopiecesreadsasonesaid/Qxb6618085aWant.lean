import Derived.Test.Qxb6618085aHex
namespace Go.Proofs.Qxb6618085a
open Go.RowKit

/-- WHAT A WALK IS TOLD OF A SLICE OF RUNES: it has no element, or its address is known and each cell is known. -/
def Row (w : World) (a : Option Addr) (l : List Int) : Prop :=
  l = [] ∨ ∃ b off, a = some ⟨b, off, none⟩ ∧ ∀ i, i < l.length → w.cell? ⟨b, off + i, none⟩ = some (.int .i32 (l.getD i 0))

theorem Row.later {w w' : World} {a : Option Addr} {l : List Int} (h : Row w a l) (hb : Below w.heap.size w w') : Row w' a l := by
  rcases h with rfl | ⟨b, off, rfl, h⟩
  · exact .inl rfl
  · exact .inr ⟨b, off, rfl, fun i hi => cell_later hb (h i hi)⟩

/-- The n runes from p on. -/
def seg (l : List Int) (p n : Nat) : List Int := (l.drop p).take n
theorem seg_len (l : List Int) (p n : Nat) (h : p + n ≤ l.length) : (seg l p n).length = n := by simp [seg]; omega
theorem seg_succ (l : List Int) (p k : Nat) (h : p + k < l.length) : seg l p (k + 1) = seg l p k ++ [l.getD (p + k) 0] := by
  unfold seg
  rw [List.take_succ_eq_append_getElem (by simp; omega)]
  simp [List.getD, h]
theorem seg_zero (l : List Int) (p : Nat) : seg l p 0 = [] := by simp [seg]
theorem seg_split (l : List Int) (p n k : Nat) (h : k ≤ n) : seg l p n = seg l p k ++ seg l (p + k) (n - k) := by
  unfold seg
  rw [← List.drop_drop, List.take_drop, ← List.take_drop]
  have := List.take_append_drop k ((l.drop p).take n)
  rw [List.take_take, Nat.min_eq_left h, List.drop_take] at this
  exact this.symm
theorem seg_bad (l : List Int) (p n k : Nat) (h : p + n ≤ l.length) (hk : k < n) (hc : ¬ 0 ≤ hv (l.getD (p + k) 0)) : allHex (seg l p n) = false := by
  rw [seg_split l p n (k + 1) hk, allHex_append, seg_succ l p k (by omega), allHex_snoc, decide_eq_false hc]
  simp

/-- Whether n digits stand at p; their number. -/
def rdOk (l : List Int) (p n : Nat) : Bool := decide (p + n ≤ l.length) && allHex (seg l p n)
def rdV (l : List Int) (p n : Nat) : Int := if rdOk l p n = true then wrap32 (hx (seg l p n) : Int) else 0

theorem all_succ (l : List Int) (p k : Nat) (c d : Int) (hk : p + k < l.length) (hc : c = l.getD (p + k) 0) (hd : d = hv c) (h0 : 0 ≤ d) (h : allHex (seg l p k) = true) : allHex (seg l p (k + 1)) = true := by
  rw [seg_succ l p k hk, allHex_snoc, h, ← hc, ← hd, decide_eq_true h0]
  rfl

theorem or_step (l : List Int) (p n k : Nat) (c d : Int) (U : Nat) (hlt : k < n) (hk : p + k < l.length) (h8 : n - 1 - k < 8) (hc : c = l.getD (p + k) 0) (hd : d = hv c) (h0 : 0 ≤ d) (h1 : d ≤ 15) (hU : U = (hx (seg l p k) * 16 ^ (n - k)) % 4294967296) :
    bits .or .u32 (U : Int) (d * 2 ^ (4 * (n - 1 - k)) % 4294967296) = ((hx (seg l p (k + 1)) * 16 ^ (n - (k + 1)) % 4294967296 : Nat) : Int) := by
  obtain ⟨q, hq⟩ : ∃ q, q = n - 1 - k := ⟨_, rfl⟩
  rw [← hq] at h8 ⊢
  obtain ⟨m, hm⟩ := Int.eq_ofNat_of_zero_le h0
  have e1 : n - k = q + 1 := by omega
  have e2 : n - (k + 1) = q := by omega
  have e3 : (d * 2 ^ (4 * q) % 4294967296 : Int) = ((m * 2 ^ (4 * q) % 4294967296 : Nat) : Int) := by
    rw [hm, Int.natCast_emod, Int.natCast_mul, Int.natCast_pow]
    rfl
  have e4 : hx (seg l p (k + 1)) = hx (seg l p k) * 16 + m := by
    rw [seg_succ l p k hk, hx_snoc, ← hc, ← hd, hm]
    rfl
  have hw := want_step (hx (seg l p k)) m q (by omega) h8
  rw [e3, u32_or_nat U _ (by omega) (by omega), hU, e1, e2, e4, hw]

set_option maxHeartbeats 400000 in
theorem hexWant_any (a : Option Addr) (len cap : Nat) (l : List Int) (p n : Nat) (w : World) (hr : Row w a l) (hlen : len = l.length) (hl : l.length ≤ 262144) (hp : p ≤ 2097152) (hn : n ≤ 2097152) :
    Calls Try.prog 22 #[.slice a len cap, .int .i64 p, .int .i64 n] w fun e w' => e = .returned (.tuple #[.int .i32 (rdV l p n), .bool (rdOk l p n)]) ∧ w' = w := by
  subst hlen
  by_cases hlong : p + n ≤ l.length
  · go_enter Try.func22, Try.ntmps22
    go_wp2
    go_loop [8, 9] (fun u i => ∃ k : Nat, k ≤ n ∧ i = .int .i64 k ∧ Hid (allHex (seg l p k) = true) ∧ u = .int .u32 (((hx (seg l p k) * 16 ^ (n - k)) % 4294967296 : Nat) : Int)) (fun _ i => n - (intOf i).toNat)
    case atStart => exact ⟨0, Nat.zero_le _, rfl, by show _ = _; rw [seg_zero]; rfl, by rw [seg_zero]; simp [hx]⟩
    case round =>
      obtain ⟨k, hk, rfl, hall, rfl⟩ := hrel
      by_cases hlt : k < n
      · rcases hr with hr | ⟨b, off, rfl, hr⟩
        · rw [hr] at hlong; simp at hlong; omega
        have hc := hr (p + k) (by omega)
        obtain ⟨c, hcd⟩ : ∃ c, c = l.getD (p + k) 0 := ⟨_, rfl⟩
        rw [← hcd] at hc
        have HC := hid hcd
        have hvr := hv_range c
        obtain ⟨d, hd⟩ : ∃ d, d = hv c := ⟨_, rfl⟩
        rw [← hd] at hvr
        have HD := hid hd
        obtain ⟨U, hU⟩ : ∃ U : Nat, U = (hx (seg l p k) * 16 ^ (n - k)) % 4294967296 := ⟨_, rfl⟩
        have hUl : U < 4294967296 := by omega
        rw [← hU]
        have HU := hid hU
        clear hr hcd hd hU
        have i1 : (p : Int) + (k : Int) < (l.length : Int) := by omega
        by_cases hneg : d < 0
        · go_wp2_with (go_at_call 33; go_must (refine (hexDigitOf_any c _).mono ?_); rintro e w ⟨rfl, rfl⟩; rw [← HD.out])
          have hbad : rdOk l p n = false := by
            unfold rdOk
            rw [seg_bad l p n k hlong hlt (by rw [← HC.out, ← HD.out]; omega), Bool.and_false]
          go_ret2
          exact ⟨by simp [rdV, hbad], rfl⟩
        · by_cases h8 : n - 1 - k < 8
          · go_wp2_with (go_at_call 33; go_must (refine (hexDigitOf_any c _).mono ?_); rintro e w ⟨rfl, rfl⟩; rw [← HD.out])
            go_round
            case rel => exact ⟨k + 1, by omega, by go_num, all_succ l p k c d (by omega) HC.out HD.out (by omega) hall.out, congrArg (Value.int .u32) (or_step l p n k c d U hlt (by omega) h8 HC.out HD.out (by omega) (by omega) HU.out)⟩
            case measure => simp [intOf]; omega
          · go_wp2_with (go_at_call 33; go_must (refine (hexDigitOf_any c _).mono ?_); rintro e w ⟨rfl, rfl⟩; rw [← HD.out])
            go_round
            case rel => exact ⟨k + 1, by omega, by go_num, all_succ l p k c d (by omega) HC.out HD.out (by omega) hall.out, congrArg (Value.int .u32) (by rw [HU.out, zero_high _ _ (by omega), zero_high _ _ (by omega)])⟩
            case measure => simp [intOf]; omega
      · obtain rfl : n = k := by omega
        have hok : rdOk l p n = true := by unfold rdOk; rw [hall.out, decide_eq_true hlong]; rfl
        have hval : wrap32 ((hx (seg l p n) : Int) % 4294967296) = rdV l p n := by
          unfold rdV
          rw [if_pos hok]
          exact rune_of _
        have HOK := hid hok
        have HV := hid hval
        clear hok hval
        go_wp2
        go_ret2
        refine ⟨?_, rfl⟩
        rw [HOK.out, ← HV.out]
        rfl
  · go_enter Try.func22, Try.ntmps22
    go_wp2
    go_ret2
    exact ⟨by simp [rdV, rdOk, hlong], rfl⟩
end Go.Proofs.Qxb6618085a
