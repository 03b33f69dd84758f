import Derived.Test.Qxb6618085aWant
namespace Go.Proofs.Qxb6618085a
open Go.RowKit

theorem start_val : wrap32 ((hx [] : Nat) : Int) = 0 := by
  have e : hx [] = 0 := rfl
  rw [e]
  unfold wrap32
  simp

/-- What 'hex' leaves: the position moves where it has read. -/
def after (w : World) (B : Nat) (l : List Int) (p n : Nat) : World := if rdOk l p n = true then w.setCell ⟨B, 1, none⟩ (.int .i64 ((p : Int) + (n : Int))) else w

set_option maxHeartbeats 400000 in
theorem hex_any (B : Nat) (a : Option Addr) (len cap : Nat) (l : List Int) (p n : Nat) (w : World) (c0 : w.cell? ⟨B, 0, none⟩ = some (.slice a len cap)) (c1 : w.cell? ⟨B, 1, none⟩ = some (.int .i64 p)) (f1 : w.frozen? ⟨B, 1, none⟩ = false)
    (hr : Row w a l) (hlen : len = l.length) (hcap : len ≤ cap) (hl : l.length ≤ 262144) (hp : p ≤ 2097152) (hn : n ≤ 2097152) (hb : ∀ i, i < l.length → -2147483648 ≤ l.getD i 0 ∧ l.getD i 0 ≤ 2147483647) :
    Calls Try.prog 32 #[.pointer (some ⟨B, 0, none⟩), .int .i64 n] w fun e w' => e = .returned (.tuple #[.int .i32 (rdV l p n), .bool (rdOk l p n)]) ∧ ∃ q, w' = (after w B l p n).drewN q := by
  subst hlen
  have HB := hid hb
  clear hb
  by_cases hlong : p + n ≤ l.length
  · have s1 : (p : Int) + (n : Int) ≤ (cap : Int) := by omega
    have s2 : (0 : Int) ≤ (p : Int) + (n : Int) := by omega
    have s3 : (p : Int) ≤ (p : Int) + (n : Int) := by omega
    have fB : decide ((l.length : Int) < (p : Int) + (n : Int)) = false := decide_eq_false (by omega)
    by_cases hn0 : n = 0
    · subst hn0
      have hok : rdOk l p 0 = true := by unfold rdOk; rw [seg_zero, decide_eq_true hlong]; rfl
      have hval : rdV l p 0 = 0 := by unfold rdV; rw [if_pos hok, seg_zero, start_val]
      have HOK := hid hok
      have HV := hid hval
      clear hok hval
      by_cases hcp : cap = p
      all_goals
        go_enter Try.func32, Try.ntmps32
        go_wp2_with fail
        go_quiet (fail)
        go_wp2_with fail
        go_quiet (fail)
        go_wp2_with fail
        go_loopw [6, 38] (fun v i wr => ∃ q : Nat, i = .int .i64 0 ∧ v = .int .i32 0 ∧ wr = w.drewN q) (fun _ i _ => 0)
        case atStart => exact ⟨_, rfl, rfl, World.drewN_drewN _ _ _⟩
        case round =>
          obtain ⟨q, rfl, rfl, rfl⟩ := hrel
          go_wp2
          go_ret2
          refine ⟨by rw [HOK.out, HV.out]; rfl, q, ?_⟩
          rw [after, if_pos HOK.out]
          simp
          rfl
    · rcases hr with hr | ⟨b, off, rfl, hr⟩
      · rw [hr] at hlong; simp at hlong; omega
      have HR := hid hr
      have nc : ¬ cap = p := by omega
      clear hr
      go_enter Try.func32, Try.ntmps32
      go_wp2_with fail
      go_quiet (fail)
      go_wp2_with fail
      go_quiet (fail)
      rw [Nat.add_sub_cancel_left]
      go_wp2_with fail
      go_loopw [6, 38] (fun v i wr => ∃ k q : Nat, k ≤ n ∧ i = .int .i64 k ∧ Hid (allHex (seg l p k) = true) ∧ v = .int .i32 (wrap32 (hx (seg l p k) : Int)) ∧ wr = w.drewN q) (fun _ i _ => n - (intOf i).toNat)
      case atStart => exact ⟨0, _, Nat.zero_le _, rfl, by show _ = _; rw [seg_zero]; rfl, by rw [seg_zero, start_val], World.drewN_drewN _ _ _⟩
      case round =>
        obtain ⟨k, q, hk, rfl, hall, rfl, rfl⟩ := hrel
        by_cases hlt : k < n
        · have hc := HR.out (p + k) (by omega)
          have hcb := HB.out (p + k) (by omega)
          rw [← Nat.add_assoc] at hc
          obtain ⟨c, hcd⟩ : ∃ c, c = l.getD (p + k) 0 := ⟨_, rfl⟩
          rw [← hcd] at hc hcb
          obtain ⟨hcb0, hcb1⟩ := hcb
          have HC := hid hcd
          have hvr := hv_range c
          obtain ⟨d, hd⟩ : ∃ d, d = hv c := ⟨_, rfl⟩
          rw [← hd] at hvr
          obtain ⟨hvr0, hvr1⟩ := hvr
          have HD := hid hd
          have i1 : (k : Int) < (n : Int) := by omega
          have hstep : 0 ≤ d → wrap32 (wrap32 (wrap32 (hx (seg l p k) : Int) * 16) + d) = wrap32 (hx (seg l p (k + 1)) : Int) := by
            intro h0
            rw [wrap32_step, seg_succ l p k (by omega), hx_snoc, ← hcd, ← hd]
            congr 1
            omega
          have HS := hid hstep
          obtain ⟨V, hV⟩ : ∃ V, V = wrap32 (hx (seg l p k) : Int) := ⟨_, rfl⟩
          rw [← hV] at HS ⊢
          clear hcd hd hstep hV
          by_cases hneg : d < 0
          · go_wp2_with (go_at_call 36; go_must (refine (hexValue_any c _ hcb0 hcb1).mono ?_); rintro e w ⟨rfl, rfl⟩; rw [← HD.out])
            have hbad : rdOk l p n = false := by
              unfold rdOk
              rw [seg_bad l p n k hlong hlt (by rw [← HC.out, ← HD.out]; omega), Bool.and_false]
            go_ret2
            exact ⟨by simp [rdV, hbad], _, by rw [after, hbad]; rfl⟩
          · go_wp2_with (go_at_call 36; go_must (refine (hexValue_any c _ hcb0 hcb1).mono ?_); rintro e w ⟨rfl, rfl⟩; rw [← HD.out])
            go_roundw
            case rel => exact ⟨k + 1, q, by omega, by go_num, all_succ l p k c d (by omega) HC.out HD.out (by omega) hall.out, by rw [← HS.out (by omega)], rfl⟩
            case measure => simp [intOf]; omega
        · obtain rfl : n = k := by omega
          have hok : rdOk l p n = true := by unfold rdOk; rw [hall.out, decide_eq_true hlong]; rfl
          have hval : wrap32 (hx (seg l p n) : Int) = rdV l p n := by unfold rdV; rw [if_pos hok]
          rw [hval]
          have HOK := hid hok
          clear hok hval
          go_wp2
          go_ret2
          refine ⟨by rw [HOK.out]; rfl, q, ?_⟩
          rw [after, if_pos HOK.out]
          rfl
  · have hok : rdOk l p n = false := by unfold rdOk; rw [decide_eq_false hlong]; rfl
    have HOK := hid hok
    clear hok
    go_enter Try.func32, Try.ntmps32
    go_wp2_with fail
    go_quiet (fail)
    go_wp2
    go_ret2
    exact ⟨by simp [rdV, HOK.out], _, by rw [after, HOK.out]; rfl⟩

/-- Where the parser stands afterwards. -/
def rdAt (l : List Int) (p n : Nat) : Int := if rdOk l p n = true then (p : Int) + (n : Int) else p

set_option maxHeartbeats 400000 in
theorem zzHex_any (a : Option Addr) (len cap : Nat) (l : List Int) (p n : Nat) (w : World) (hr : Row w a l) (hlen : len = l.length) (hcap : len ≤ cap) (hl : l.length ≤ 262144) (hp : p ≤ 2097152) (hn : n ≤ 2097152) (hb : ∀ i, i < l.length → -2147483648 ≤ l.getD i 0 ∧ l.getD i 0 ≤ 2147483647) :
    Calls Try.prog 21 #[.slice a len cap, .int .i64 p, .int .i64 n] w fun e w' => e = .returned (.tuple #[.int .i32 (rdV l p n), .bool (rdOk l p n), .int .i64 (rdAt l p n)]) ∧ Below w.heap.size w w' := by
  have hX := hex_any w.heap.size a len cap l p n (w.alloc (.cells #[.slice a len cap, .int .i64 p, .pointer none, .int .i64 0, .int .i64 0, .int .i64 0, .int .i64 0, .map none, .pointer none, .pointer none, .map none] 56)) (by simp) (by simp) (by simp) (hr.later ((Below.refl _ _).alloc (Nat.le_refl _) _)) hlen hcap hl hp hn hb
  clear hr hlen hb
  cases hok : rdOk l p n
  · have e1 : rdAt l p n = p := by rw [rdAt, hok]; rfl
    rw [after, hok] at hX
    rw [e1]
    have HX := hid hX
    clear hok e1 hX
    go_enter Try.func21, Try.ntmps21
    go_wp2_with (go_at_call 32; go_must (refine HX.out.mono ?_); rintro e w1 ⟨rfl, q, rfl⟩)
    go_quiet (fail)
    go_wp2
    go_ret3
    exact ⟨rfl, (((Below.refl _ _).alloc (Nat.le_refl _) _).trans ⟨rfl, rfl, rfl, Nat.le_refl _, fun _ _ => rfl⟩).trans ⟨rfl, rfl, rfl, Nat.le_refl _, fun _ _ => rfl⟩⟩
  · have e1 : rdAt l p n = (p : Int) + (n : Int) := by rw [rdAt, if_pos hok]
    rw [after, hok] at hX
    rw [e1]
    have HX := hid hX
    clear hok e1 hX
    go_enter Try.func21, Try.ntmps21
    go_wp2_with (go_at_call 32; go_must (refine HX.out.mono ?_); rintro e w1 ⟨rfl, q, rfl⟩)
    go_quiet (fail)
    go_wp2
    go_ret3
    exact ⟨rfl, (((Below.refl _ _).alloc (Nat.le_refl _) _).trans ⟨rfl, rfl, rfl, Nat.le_refl _, fun _ _ => rfl⟩).trans ⟨rfl, rfl, rfl, Nat.le_refl _, fun _ _ => rfl⟩⟩
end Go.Proofs.Qxb6618085a
