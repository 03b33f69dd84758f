import Derived.Test.Qxb6618085aLawHex
namespace Go.Proofs.Qxb6618085a
open Go.RowKit

set_option maxHeartbeats 400000 in
theorem zzBytes23_yes (a0 : Option Addr) (l0 c0 : Nat) (p n m : Int) (w : World) (h : l0 ≤ 1048576) :
    Calls Try.prog 23 #[.slice a0 l0 c0, .int .i64 p, .int .i64 n, .int .i64 m] w fun e w' => e = .returned (.bool true) ∧ w' = w := by
  go_enter Try.func23, Try.ntmps23
  go_wp2
  go_ret
  exact ⟨rfl, rfl⟩

set_option maxHeartbeats 400000 in
theorem zzBytes23_no (a0 : Option Addr) (l0 c0 : Nat) (p n m : Int) (w : World) (h : ¬ l0 ≤ 1048576) :
    Calls Try.prog 23 #[.slice a0 l0 c0, .int .i64 p, .int .i64 n, .int .i64 m] w fun e w' => e = .returned (.bool false) ∧ w' = w := by
  go_enter Try.func23, Try.ntmps23
  go_wp2
  go_ret
  exact ⟨rfl, rfl⟩

/-- The two contracts, the numbers spelt as the caller has them. -/
theorem zzHex_at (a : Option Addr) (len cap : Nat) (l : List Int) (p n : Nat) (P N : Int) (w : World) (hP : P = (p : Int)) (hN : N = (n : Int)) (hr : Row w a l) (hlen : len = l.length) (hcap : len ≤ cap) (hl : l.length ≤ 262144) (hp : p ≤ 2097152) (hn : n ≤ 2097152) (hb : ∀ i, i < l.length → -2147483648 ≤ l.getD i 0 ∧ l.getD i 0 ≤ 2147483647) :
    Calls Try.prog 21 #[.slice a len cap, .int .i64 P, .int .i64 N] w fun e w' => e = .returned (.tuple #[.int .i32 (rdV l p n), .bool (rdOk l p n), .int .i64 (rdAt l p n)]) ∧ Below w.heap.size w w' := by
  subst hP
  subst hN
  exact zzHex_any a len cap l p n w hr hlen hcap hl hp hn hb
theorem hexWant_at (a : Option Addr) (len cap : Nat) (l : List Int) (p n : Nat) (P N : Int) (w : World) (hP : P = (p : Int)) (hN : N = (n : Int)) (hr : Row w a l) (hlen : len = l.length) (hl : l.length ≤ 262144) (hp : p ≤ 2097152) (hn : n ≤ 2097152) :
    Calls Try.prog 22 #[.slice a len cap, .int .i64 P, .int .i64 N] w fun e w' => e = .returned (.tuple #[.int .i32 (rdV l p n), .bool (rdOk l p n)]) ∧ w' = w := by
  subst hP
  subst hN
  exact hexWant_any a len cap l p n w hr hlen hl hp hn

theorem rdOk_split (l : List Int) (p n m : Nat) : rdOk l p (n + m) = (rdOk l p n && rdOk l (p + n) m) := by
  unfold rdOk
  rw [seg_split l p (n + m) n (by omega), Nat.add_sub_cancel_left, allHex_append]
  by_cases h : p + n + m ≤ l.length
  · rw [decide_eq_true (show p + (n + m) ≤ l.length by omega), decide_eq_true (show p + n ≤ l.length by omega), decide_eq_true h]
    simp
  · rw [decide_eq_false (show ¬ p + (n + m) ≤ l.length by omega), decide_eq_false h]
    simp

theorem rdV_split (l : List Int) (p n m : Nat) (h1 : rdOk l p n = true) (h2 : rdOk l (p + n) m = true) (k : Nat) (hk : k = min (4 * m) 32) :
    wrap32 (wrap32 (rdV l p n * 2 ^ k) + rdV l (p + n) m) = rdV l p (n + m) := by
  have h3 : rdOk l p (n + m) = true := by rw [rdOk_split, h1, h2]; rfl
  have hlm : (seg l (p + n) m).length = m := by
    unfold rdOk at h2
    have : p + n + m ≤ l.length := by have := (Bool.and_eq_true_iff.1 h2).1; exact of_decide_eq_true this
    exact seg_len _ _ _ this
  unfold rdV
  rw [if_pos h1, if_pos h2, if_pos h3, seg_split l p (n + m) n (by omega), Nat.add_sub_cancel_left, hx_append, hlm]
  exact two_pieces _ _ m k hk

set_option maxRecDepth 100000 in
set_option maxHeartbeats 1000000 in
theorem law6_main (a : Option Addr) (cap : Nat) (l : List Int) (p n m : Nat) (w : World) (hr : Row w a l) (hcap : l.length ≤ cap) (hl : l.length ≤ 262144) (hp : p ≤ 1048576) (hn : n ≤ 1048576) (hm : m ≤ 1048576) (hb : ∀ i, i < l.length → -2147483648 ≤ l.getD i 0 ∧ l.getD i 0 ≤ 2147483647) :
    Calls Try.prog 6 #[.slice a l.length cap, .int .i64 p, .int .i64 n, .int .i64 m] w fun e w' => e = .returned (.bool true) ∧ Below w.heap.size w w' := by
  obtain ⟨i0, hi, hz0, hz1, hz2⟩ := info_parts Try.info21
  have qn := q38
  have HR := hid hr
  have HB := hid hb
  clear hr hb
  go_enter Try.func6, Try.ntmps6
  go_upto_if 53 with (go_at_call 23; go_must (refine (zzBytes23_yes _ _ _ _ _ _ _ (by omega)).mono ?_); rintro e w ⟨rfl, rfl⟩)
  go_cut [0] from 52 to 60 (fun s wx => ∃ a' cap', s = .slice a' l.length cap' ∧ l.length ≤ cap' ∧ Row wx a' l ∧ Below w.heap.size w wx)
  case first =>
    cases a with
    | none =>
      go_wp2
      go_meet
      case rel => exact ⟨none, cap, rfl, hcap, HR.out, Below.refl _ _⟩
    | some x =>
      go_wp2_with (at_make; go_must (refine wpList_make_full _ rfl _ _ 38 rfl w.heap.size 21 i0 (.int .i32 0) 1 Try.underlying38 hi hz0 hz1 .i64 .i64 _ _ l.length rfl rfl rfl rfl (by rw [hz2]; omega) (by unfold maxLen; omega) (Nat.le_refl _) ?_))
      intro w1 hown hgrow
      have hb1 : Below w.heap.size w w1 := (Below.refl _ _).grown hgrow (Nat.le_refl _) (fun k hk => by cases hk)
      obtain ⟨-, ⟨h, -⟩ | ⟨g, cp, cur, hv, -, hh, -, -, hsz, -⟩⟩ := hown
      · cases h
      simp only [Value.slice.injEq, Option.some.injEq, Addr.mk.injEq] at hv
      obtain ⟨⟨rfl, -, -⟩, -, rfl⟩ := hv
      have ha1 := HR.out.later hb1
      obtain ⟨cs, hcs⟩ : ∃ cs, cs = l.map (Value.int .i32) := ⟨_, rfl⟩
      have hcl : cs.length = l.length := by rw [hcs]; simp
      have hcu : cur.toList.length = l.length := by simpa using hsz
      have HC : Hid (cs = l.map (Value.int .i32)) := hcs
      have hpos : 0 < cs.length → ∃ ad, some x = some ad ∧ ∀ j v, cs[j]? = some v → w1.cell? (ad.add j) = some v := by
        intro hp
        rcases ha1 with h | ⟨b, off, hx, hc⟩
        · rw [h] at hcl; simp only [List.length_nil] at hcl; omega
        · refine ⟨x, rfl, fun j v hj => ?_⟩
          cases hx
          have hjl : j < l.length := by have := (List.getElem?_eq_some_iff.1 hj).1; omega
          rw [hcs] at hj
          simp only [List.getElem?_map, List.getElem?_eq_getElem hjl, Option.map_some, Option.some.injEq] at hj
          rw [Addr.add_lit, hc j hjl, ← hj]
          simp [List.getD, hjl]
      have h1c : ∀ v ∈ cs, v.oneCell' = true := by rw [hcs]; exact ints_oneCell _ _
      have hh' : w1.heap[w.heap.size]? = some (.cells cur.toList.toArray 21 (0, 0)) := by simpa using hh
      have HH := hid hh'
      have HP := hid hpos
      have H1 := hid h1c
      have HB1 := hid hb1
      have HCL := hid hcl
      have HCU := hid hcu
      clear hcs hh' hpos h1c hh hb1 hcl hcu ha1 hgrow hsz
      go_wp2_with (refine wpList_copy_splice rfl (.tmp 57) (.tmp 58) 38 38 rfl 21 Try.underlying38 (by kernel_rfl) _ _ _ _ _ _ rfl rfl w.heap.size 0 cur.toList 21 HH.out cs (by rw [HCL.out]; simp) (fun hp => ⟨rfl, HP.out hp⟩) (by rw [HCL.out, HCU.out]; omega) H1.out w.heap.size w HB1.out (Nat.le_refl _) ?_)
      intro w2 hg2 hb2
      go_wp2
      go_meet
      case rel =>
        refine ⟨some ⟨w.heap.size, 0, none⟩, _, rfl, Nat.le_refl _, .inr ⟨w.heap.size, 0, rfl, fun j hj => ?_⟩, hb2⟩
        rw [cell_of_row _ _ _ _ _ _ hg2.out]
        have e : splice cur.toList 0 cs = cs := by
          have e0 : cur.toList.drop cs.length = [] := List.drop_eq_nil_of_le (by rw [HCL.out, HCU.out]; omega)
          simp [splice, e0]
        rw [e, HC.out]
        simp [List.getD, hj]
  case rest =>
  obtain ⟨a', cap', rfl, hcap', hr', hb'⟩ := hcut
  have HR' := hid hr'
  have HB' := hid hb'
  clear hr' hb' HR
  go_wp2_with (go_at_call 21; go_must (refine (zzHex_at a' _ cap' l p (n + m) _ _ _ rfl (by omega) HR'.out rfl hcap' hl (by omega) (by omega) HB.out).mono ?_); rintro e w3 ⟨rfl, hb3⟩; refine Hid.out ?_)
  refine hid ?_
  have HB3 := hid (HB'.out.trans (hb3.mono HB'.out.size))
  have HR3 := hid (HR'.out.later hb3)
  clear hb3 HB' HR'
  go_wp2_with (go_at_call 22; go_must (refine (hexWant_at a' _ cap' l p (n + m) _ _ _ rfl (by omega) HR3.out rfl hl (by omega) (by omega)).mono ?_); rintro e w3 ⟨rfl, rfl⟩; refine Hid.out ?_)
  refine hid ?_
  have HSP := hid (rdOk_split l p n m)
  have HVS := hid (rdV_split l p n m)
  obtain ⟨okw, hokw⟩ : ∃ b, b = rdOk l p (n + m) := ⟨_, rfl⟩
  obtain ⟨vw, hvw⟩ : ∃ v, v = rdV l p (n + m) := ⟨_, rfl⟩
  obtain ⟨aw, haw⟩ : ∃ v, v = rdAt l p (n + m) := ⟨_, rfl⟩
  rw [← hokw, ← hvw, ← haw]
  have HOKW := hid hokw
  have HVW := hid hvw
  have HAW := hid haw
  clear hokw hvw haw
  have hBB : (okw != okw) = false := by simp
  go_wp2_with (go_at_call 21; go_must (refine (zzHex_at a' _ cap' l p n _ _ _ rfl rfl HR3.out rfl hcap' hl (by omega) (by omega) HB.out).mono ?_); rintro e w4 ⟨rfl, hb4⟩; refine Hid.out ?_)
  refine hid ?_
  have HB4 := hid (HB3.out.trans (hb4.mono HB3.out.size))
  have HR4 := hid (HR3.out.later hb4)
  clear hb4 HB3 HR3
  cases h1 : rdOk l p n
  · have e0 : okw = false := by rw [HOKW.out, HSP.out, h1]; rfl
    have e1 : vw = 0 := by rw [HVW.out, rdV, ← HOKW.out, e0]; rfl
    have e2 : aw = p := by rw [HAW.out, rdAt, ← HOKW.out, e0]; rfl
    rw [e0, e1, e2]
    clear e0 e1 e2 h1 hBB
    go_wp2
    go_ret
    exact ⟨rfl, HB4.out⟩
  · have e2 : rdAt l p n = (p : Int) + (n : Int) := by rw [rdAt, if_pos h1]
    rw [e2]
    have H1 := hid h1
    clear e2 h1
    go_wp2_with (go_at_call 21; go_must (refine (zzHex_at a' _ cap' l (p + n) m _ _ _ (by omega) rfl HR4.out rfl hcap' hl (by omega) (by omega) HB.out).mono ?_); rintro e w5 ⟨rfl, hb5⟩; refine Hid.out ?_)
    refine hid ?_
    have HB5 := hid (HB4.out.trans (hb5.mono HB4.out.size))
    clear hb5 HB4 HR4
    cases h2 : rdOk l (p + n) m
    · have e0 : okw = false := by rw [HOKW.out, HSP.out, H1.out, h2]; rfl
      have e1 : vw = 0 := by rw [HVW.out, rdV, ← HOKW.out, e0]; rfl
      have e2 : aw = p := by rw [HAW.out, rdAt, ← HOKW.out, e0]; rfl
      rw [e0, e1, e2]
      clear e0 e1 e2 h2 hBB
      go_wp2
      go_ret
      exact ⟨rfl, HB5.out⟩
    · have e0 : okw = true := by rw [HOKW.out, HSP.out, H1.out, h2]; rfl
      have e2 : aw = (p : Int) + (n : Int) + (m : Int) := by rw [HAW.out, rdAt, if_pos (by rw [← HOKW.out, e0])]; omega
      have e3 : rdAt l (p + n) m = (p : Int) + (n : Int) + (m : Int) := by rw [rdAt, if_pos h2]; omega
      rw [e0, e2, e3]
      have H2 := hid h2
      clear e0 e2 e3 h2 hBB
      have p4 : (0 : Int) ≤ 4 * (m : Int) := by omega
      go_wp2
      go_ret
      refine ⟨?_, HB5.out⟩
      show Ending.returned (.bool (vw == wrap32 (wrap32 (rdV l p n * 2 ^ min (4 * m) 32) + rdV l (p + n) m))) = _
      rw [HVS.out H1.out H2.out _ rfl, ← HVW.out, beq_self_eq_true]
end Go.Proofs.Qxb6618085a
