import Derived.Test.Qxb6618320aBase
namespace Go.Proofs.Qxb6618320a
open Go.RowKit

set_option maxHeartbeats 400000 in
theorem zzBytes9_yes (a0 a1 : Option Addr) (l0 c0 l1 c1 : Nat) (i : Int) (w : World) (h : l0 + l1 ≤ 1048576) :
    Calls Try.prog 9 #[.slice a0 l0 c0, .slice a1 l1 c1, .int .i64 i] w fun e w' => e = .returned (.bool true) ∧ w' = w := by
  go_enter Try.func9, Try.ntmps9
  go_wp2
  go_ret
  exact ⟨rfl, rfl⟩

set_option maxHeartbeats 400000 in
theorem zzBytes9_no (a0 a1 : Option Addr) (l0 c0 l1 c1 : Nat) (i : Int) (w : World) (h : ¬ l0 + l1 ≤ 1048576) (h0 : l0 ≤ maxLen) (h1 : l1 ≤ maxLen) :
    Calls Try.prog 9 #[.slice a0 l0 c0, .slice a1 l1 c1, .int .i64 i] w fun e w' => e = .returned (.bool false) ∧ w' = w := by
  unfold maxLen at h0 h1
  by_cases g0 : l0 ≤ 1048576
  · by_cases g1 : l1 ≤ 1048576
    · go_enter Try.func9, Try.ntmps9
      go_wp2
      go_ret
      exact ⟨rfl, rfl⟩
    · go_enter Try.func9, Try.ntmps9
      go_wp2
      go_ret
      exact ⟨rfl, rfl⟩
  · go_enter Try.func9, Try.ntmps9
    go_wp2
    go_ret
    exact ⟨rfl, rfl⟩

theorem q22 : ∀ (w : World) (a : Option Addr) (n c n' c' : Nat), (binOp .neq 22 (.slice a n c) (.slice none n' c')).run Try.prog w = .ok (.bool (!a.isNone)) w := fun w a n c n' c' => run_neq_slice_nil_any w _ _ a n c n' c' Try.underlying22

/-- Where the scan stops early it stops behind a quote. -/
theorem scanE_quote (l : List Int) : ∀ e, scanE e l < l.length → 1 ≤ scanE e l ∧ l.getD (scanE e l - 1) 0 = 34 := by
  induction l with
  | nil => intro e h; simp at h
  | cons c r ih =>
    intro e h
    have go : ∀ e', 1 + scanE e' r < r.length + 1 → 1 ≤ 1 + scanE e' r ∧ (c :: r).getD (1 + scanE e' r - 1) 0 = 34 := by
      intro e' h'
      have := ih e' (by omega)
      refine ⟨by omega, ?_⟩
      obtain ⟨k, hk⟩ : ∃ k, scanE e' r = k + 1 := ⟨scanE e' r - 1, by omega⟩
      rw [hk] at this ⊢
      have e1 : 1 + (k + 1) - 1 = k + 1 := by omega
      rw [e1]
      simpa [List.getD] using this.2
    cases e
    · simp only [scanE, List.length_cons] at h ⊢
      by_cases h92 : c = 92
      · rw [if_pos h92] at h ⊢; exact go _ h
      · rw [if_neg h92] at h ⊢
        by_cases h34 : c = 34
        · rw [if_pos h34]; simp [h34]
        · rw [if_neg h34] at h ⊢; exact go _ h
    · simp only [scanE, List.length_cons] at h ⊢
      exact go _ h

theorem SE_bounds (l : List Int) (i : Nat) (h : i < l.length) : i < SE l i ∧ SE l i ≤ l.length := by
  have := scanE_le (l.drop (i + 1)) false
  rw [List.length_drop] at this
  unfold SE
  omega

theorem SE_quote (l : List Int) (i : Nat) (h : SE l i < l.length) : l.getD (SE l i - 1) 0 = 34 := by
  unfold SE at h ⊢
  have := scanE_quote (l.drop (i + 1)) false (by rw [List.length_drop]; omega)
  have e : i + 1 + scanE false (l.drop (i + 1)) - 1 = i + 1 + (scanE false (l.drop (i + 1)) - 1) := by omega
  rw [e]
  have h2 := this.2
  simp only [List.getD, List.getElem?_drop] at h2 ⊢
  exact h2

theorem SE_prefix (p l : List Int) (i : Nat) : SE (p ++ l) (p.length + i) = p.length + SE l i := by
  have e : (p ++ l).drop (p.length + i + 1) = l.drop (i + 1) := by
    rw [show p.length + i + 1 = p.length + (i + 1) from rfl, List.drop_append, List.drop_eq_nil_of_le (by omega), Nat.add_sub_cancel_left, List.nil_append]
  unfold SE
  rw [e]
  omega

set_option maxRecDepth 100000 in
set_option maxHeartbeats 1000000 in
theorem law4_main (a0 : Option Addr) (c0 : Nat) (a : Option Addr) (cap : Nat) (p l : List Int) (i : Nat) (w : World) (hp : Row w a0 p) (hr : Row w a l) (hcap : l.length ≤ cap) (hpl : p.length ≤ 524288) (hl : l.length ≤ 524288) (hi : i < l.length) :
    Calls Try.prog 4 #[.slice a0 p.length c0, .slice a l.length cap, .int .i64 i] w fun e w' => e = .returned (.bool true) ∧ Below w.heap.size w w' := by
  obtain ⟨i0, hi0, hz0, hz1, hz2⟩ := info_parts Try.info5
  have qn := q22
  have fB : decide (l.length ≤ i) = false := decide_eq_false (by omega)
  have HR := hid hr
  have HP := hid hp
  clear hr hp
  go_enter Try.func4, Try.ntmps4
  go_upto_if 30 with (go_at_call 9; go_must (refine (zzBytes9_yes _ _ _ _ _ _ _ _ (by omega)).mono ?_); rintro e w ⟨rfl, rfl⟩)
  go_cut [1] from 29 to 37 (fun s wx => ∃ a' cap', s = .slice a' l.length cap' ∧ l.length ≤ cap' ∧ Row wx a' l ∧ Below w.heap.size w wx)
  case first =>
    cases a with
    | none =>
      go_wp2
      go_meet
      case rel => exact ⟨none, cap, rfl, hcap, HR.out, Below.refl _ _⟩
    | some x =>
      go_wp2_with (at_make; go_must (refine wpList_make_full _ rfl _ _ 22 rfl w.heap.size 5 i0 (.int .u8 0) 1 Try.underlying22 hi0 hz0 hz1 .i64 .i64 _ _ l.length rfl rfl rfl rfl (by rw [hz2]; omega) (by unfold maxLen; omega) (Nat.le_refl _) ?_))
      intro w1 hown hgrow
      have hb1 : Below w.heap.size w w1 := (Below.refl _ _).grown hgrow (Nat.le_refl _) (fun k hk => by cases hk)
      obtain ⟨-, ⟨h, -⟩ | ⟨g, cp, cur, hv, -, hh, -, -, hsz, -⟩⟩ := hown
      · cases h
      simp only [Value.slice.injEq, Option.some.injEq, Addr.mk.injEq] at hv
      obtain ⟨⟨rfl, -, -⟩, -, rfl⟩ := hv
      have ha1 := HR.out.later hb1
      obtain ⟨cs, hcs⟩ : ∃ cs, cs = l.map (Value.int .u8) := ⟨_, rfl⟩
      have hcl : cs.length = l.length := by rw [hcs]; simp
      have hcu : cur.toList.length = l.length := by simpa using hsz
      have HC : Hid (cs = l.map (Value.int .u8)) := hcs
      have hpos : 0 < cs.length → ∃ ad, some x = some ad ∧ ∀ j v, cs[j]? = some v → w1.cell? (ad.add j) = some v := by
        intro hp
        rcases ha1 with h | ⟨b, off, hx, hc⟩
        · rw [h] at hcl; simp only [List.length_nil] at hcl; omega
        · refine ⟨x, rfl, fun j v hj => ?_⟩
          cases hx
          have hjl : j < l.length := by have := (List.getElem?_eq_some_iff.1 hj).1; omega
          rw [hcs] at hj
          simp only [List.getElem?_map, List.getElem?_eq_getElem hjl, Option.map_some, Option.some.injEq] at hj
          rw [Addr.add_lit, hc j hjl, ← hj]
          simp [List.getD, hjl]
      have h1c : ∀ v ∈ cs, v.oneCell' = true := by rw [hcs]; exact ints_oneCell _ _
      have hh' : w1.heap[w.heap.size]? = some (.cells cur.toList.toArray 5 (0, 0)) := by simpa using hh
      have HH := hid hh'
      have HPo := hid hpos
      have H1 := hid h1c
      have HB1 := hid hb1
      have HCL := hid hcl
      have HCU := hid hcu
      clear hcs hh' hpos h1c hh hb1 hcl hcu ha1 hgrow hsz
      go_wp2_with (refine wpList_copy_splice rfl (.tmp 34) (.tmp 35) 22 22 rfl 5 Try.underlying22 (by kernel_rfl) _ _ _ _ _ _ rfl rfl w.heap.size 0 cur.toList 5 HH.out cs (by rw [HCL.out]; simp) (fun hp => ⟨rfl, HPo.out hp⟩) (by rw [HCL.out, HCU.out]; omega) H1.out w.heap.size w HB1.out (Nat.le_refl _) ?_)
      intro w2 hg2 hb2
      go_wp2
      go_meet
      case rel =>
        refine ⟨some ⟨w.heap.size, 0, none⟩, _, rfl, Nat.le_refl _, .inr ⟨w.heap.size, 0, rfl, fun j hj => ?_⟩, hb2⟩
        rw [cell_of_row _ _ _ _ _ _ hg2.out]
        have e : splice cur.toList 0 cs = cs := by
          have e0 : cur.toList.drop cs.length = [] := List.drop_eq_nil_of_le (by rw [HCL.out, HCU.out]; omega)
          simp [splice, e0]
        rw [e, HC.out]
        simp [List.getD, hj]
  case rest =>
  obtain ⟨a', cap', rfl, hcap', hr', hb'⟩ := hcut
  have HR' := hid hr'
  have HB' := hid hb'
  clear hr' hb' HR
  have hse := SE_bounds l i hi
  obtain ⟨r, hrr⟩ : ∃ r, r = SE l i := ⟨_, rfl⟩
  have HRR := hid hrr
  rw [← hrr] at hse
  obtain ⟨s1, s2⟩ := hse
  clear hrr
  go_wp2_with (go_at_call 6; go_must (refine (zzStringEnd_any a' _ cap' l i _ _ HR'.out rfl (by omega) hi rfl).mono ?_); rintro e w3 ⟨rfl, rfl⟩; rw [← HRR.out]; refine Hid.out ?_)
  refine hid ?_
  go_wp2_with (go_at_call 8; go_must (refine (zzCat_any _ _ _ _ _ _ p l _ (HP.out.later HB'.out) HR'.out rfl rfl hpl hl).mono ?_); rintro e w4 ⟨a4, rfl, r4, b4⟩; refine Hid.out ?_)
  refine hid ?_
  have HR4 := hid r4
  have HB4 := hid (HB'.out.trans (b4.mono HB'.out.size))
  have HRL := hid (HR'.out.later b4)
  clear r4 b4 HB' HR'
  have HPX := hid (show SE (p ++ l) (p.length + i) = p.length + r by rw [SE_prefix, ← HRR.out])
  go_wp2_with (go_at_call 6; go_must (refine (zzStringEnd_any a4 _ _ (p ++ l) (p.length + i) _ _ HR4.out (by simp) (by simp; omega) (by simp; omega) (by omega)).mono ?_); rintro e w5 ⟨rfl, rfl⟩; rw [HPX.out]; refine Hid.out ?_)
  refine hid ?_
  by_cases hlt : r < l.length
  · rcases HRL.out with h | ⟨b, off, rfl, hc⟩
    · rw [h] at hi; simp at hi
    have hq := SE_quote l i (by rw [← HRR.out]; exact hlt)
    rw [← HRR.out] at hq
    have hcq := hc (r - 1) (by omega)
    rw [hq] at hcq
    have i2 : (r : Int) - 1 < (l.length : Int) := by omega
    have i3 : (0 : Int) ≤ (r : Int) - 1 := by omega
    have e3 : ((r : Int) - 1).toNat = r - 1 := by omega
    clear hc hq
    go_wp2
    go_ret
    exact ⟨rfl, HB4.out⟩
  · go_wp2
    go_ret
    exact ⟨rfl, HB4.out⟩
end Go.Proofs.Qxb6618320a
