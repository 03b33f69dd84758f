import Derived.Test.Qxb6618085aSplitPlain
import Derived.Test.Qxb6618085aBytes2
namespace Go.Proofs.Qxb6618085a
open Go.RowKit

/-- The three parsers, whole; all that was there as it was. -/
def Tri (w : World) (ba bb bc : Nat) (sa sb sc : PS) (wx : World) : Prop := Parser 0 wx ba sa ∧ Parser 0 wx bb sb ∧ Parser 0 wx bc sc ∧ Below w.heap.size w wx
theorem Tri.later {w : World} {ba bb bc : Nat} {sa sb sc : PS} {wx wy : World} (h : Tri w ba bb bc sa sb sc wx) (hb : Below wx.heap.size wx wy) : Tri w ba bb bc sa sb sc wy :=
  ⟨h.1.later hb, h.2.1.later hb, h.2.2.1.later hb, h.2.2.2.trans (hb.mono h.2.2.2.size)⟩
theorem Tri.alloc {w : World} {ba bb bc : Nat} {sa sb sc : PS} {wx : World} (h : Tri w ba bb bc sa sb sc wx) (o : Obj) : Tri w ba bb bc sa sb sc (wx.alloc o) := h.later ((Below.refl _ _).alloc (Nat.le_refl _) o)

theorem Wd.at {W : World} (x : Wd W) {N : Nat} {o : Obj} (h : W.heap[N]? = some o) : x.w.heap[N]? = some o := by rw [x.h.block _ (lt_of_heap h)]; exact h

theorem viewF (bp : Nat) (s : PS) (w : World) (h : Parser 0 w bp s) (y : Option RR) (hy : s.first = y) : Calls Try.prog 12 #[.pointer (some ⟨bp, 0, none⟩)] w fun e w' => e = .returned (.agg (vv y)) ∧ Below w.heap.size w w' := by
  subst hy; exact viewFirst_any 0 bp s w h
theorem viewH (bp : Nat) (s : PS) (w : World) (h : Parser 0 w bp s) (y : Option RR) (hy : s.high = y) : Calls Try.prog 15 #[.pointer (some ⟨bp, 0, none⟩)] w fun e w' => e = .returned (.agg (vv y)) ∧ Below w.heap.size w w' := by
  subst hy; exact viewHighest_any 0 bp s w h
theorem viewN (bp : Nat) (s : PS) (w : World) (k : ByteArray) (h : Parser 0 w bp s) (y : Option RR) (hy : look s.named k = y) : Calls Try.prog 17 #[.pointer (some ⟨bp, 0, none⟩), .string k] w fun e w' => e = .returned (.agg (vv y)) ∧ Below w.heap.size w w' := by
  subst hy; exact viewNamed_any 0 bp s k w h

theorem run_field4 (w : World) (p n : Int) (m t : ByteArray) (b : Bool) : (Instr.field 29 (.agg #[.int .i64 p, .int .i64 n, .string m, .string t, .bool b]) 4).run Try.prog w = .ok (.bool b) w := by kernel_rfl

set_option maxRecDepth 100000 in
set_option maxHeartbeats 4000000 in
theorem law4_main (a : Option Addr) (cap : Nat) (rs : List RR) (a1 : Option Addr) (cap1 : Nat) (qs : List RR) (w : World) (hr : Refs w a rs) (hq : Refs w a1 qs) (hl : rs.length ≤ maxLen) (hl1 : qs.length ≤ maxLen) :
    Calls Try.prog 4 #[.slice a rs.length cap, .slice a1 qs.length cap1] w fun e w' => e = .returned (.bool true) ∧ Below w.heap.size w w' := by
  have HR := hidr hr
  have HQ := hidr hq
  have HL := hidr hl
  have HL1 := hidr hl1
  clear hr hl hq hl1
  have nqx := neqX
  have hf4 := run_field4
  go_enter Try.func4, Try.ntmps4
  go_wp2_with (go_at_call 19; go_must (refine (zzBytes19_any a cap rs a1 cap1 qs _ HR.out HQ.out HL.out HL1.out).mono ?_))
  rintro e w ⟨⟨b, rfl, hb⟩, rfl⟩
  cases b with
  | false =>
    go_wp2
    go_ret
    exact ⟨rfl, Below.refl _ _⟩
  | true =>
  obtain ⟨le0, le1⟩ := hb rfl
  clear hb
  go_wp2_with (go_at_call 9; go_must (refine (refsSize_any a cap rs _ HR.out le0).mono ?_))
  rintro e w2 ⟨t, q, rfl, ⟨t0, t1⟩, rfl⟩
  have HQ2 : Hid (Refs (w.drewN q) a1 qs) := HQ.out
  go_wp2_with (go_at_call 9; go_must (refine (refsSize_any a1 cap1 qs _ HQ2.out le1).mono ?_))
  rintro e w2 ⟨t', q', rfl, ⟨t0', t1'⟩, rfl⟩
  by_cases ht : t + t' ≤ 1048576
  case neg =>
    go_wp2
    go_ret
    exact ⟨rfl, below_drewN (Below.refl _ _) _⟩
  case pos =>
  have td : decide (1048576 < t + t') = false := decide_eq_false (by omega)
  have hlow := HR.out.low
  have hlow1 := HQ.out.low
  have HLO := hidr hlow
  have HLO1 := hidr hlow1
  clear hlow hlow1 HQ2
  go_wp2_with (go_at_call 10; go_must (refine (newParser_any _).mono ?_))
  rintro e w3 ⟨ba, rfl, hP, hB⟩
  replace hB : Below w.heap.size w w3 := (below_drewN (Below.refl _ _) (q + q')).trans hB
  replace hP : Parser w.heap.size w3 ba s0 := hP
  have HP := hidr hP
  have HB := hidr hB
  clear hP hB
  go_wp2_with (go_at_call 11; go_must (refine (noteAll_any w.heap.size ba s0 a cap rs _ HP.out (HR.out.later HB.out HLO.out) HL.out HLO.out).mono ?_))
  rintro e w4 ⟨rfl, hPa, hB⟩
  replace hB := HB.out.trans hB
  clear HB HP
  have HPa := hidr hPa.weak
  have HB4 := hidr hB
  clear hPa hB
  go_wp2_with (go_at_call 10; go_must (refine (newParser_any _).mono ?_))
  rintro e w5 ⟨bb, rfl, hP, hB⟩
  have HP := hidr hP
  have HB5 := hidr hB
  clear hP hB
  go_wp2_with (go_at_call 11; go_must (refine (noteAll_any w4.heap.size bb s0 a1 cap1 qs _ HP.out (HQ.out.later (HB4.out.trans (HB5.out.mono HB4.out.size)) HLO1.out) HL1.out (fun h x e => Nat.lt_of_lt_of_le (HLO1.out h x e) HB4.out.size)).mono ?_))
  rintro e w6 ⟨rfl, hPb, hB⟩
  have HPb := hidr hPb.weak
  have hB46 := HB5.out.trans hB
  have HPa6 := hidr (HPa.out.later hB46)
  have HB6 := hidr (HB4.out.trans (hB46.mono HB4.out.size))
  clear hPb hB hB46 HP HB5 HB4 HPa
  go_wp2_with (go_at_call 10; go_must (refine (newParser_any _).mono ?_))
  rintro e w7 ⟨bc, rfl, hP, hB⟩
  have HP := hidr hP
  have HB7 := hidr hB
  clear hP hB
  go_wp2_with (go_at_call 11; go_must (refine (noteAll_any w6.heap.size bc s0 a cap rs _ HP.out (HR.out.later (HB6.out.trans (HB7.out.mono HB6.out.size)) HLO.out) HL.out (fun h x e => Nat.lt_of_lt_of_le (HLO.out h x e) HB6.out.size)).mono ?_))
  rintro e w8 ⟨rfl, hP, hB⟩
  have HP8 := hidr hP
  have HB8 := hidr (HB7.out.trans hB)
  clear hP hB HP HB7
  go_wp2_with (go_at_call 11; go_must (refine (noteAll_any w6.heap.size bc _ a1 cap1 qs _ HP8.out (HQ.out.later (HB6.out.trans (HB8.out.mono HB6.out.size)) HLO1.out) HL1.out (fun h x e => Nat.lt_of_lt_of_le (HLO1.out h x e) HB6.out.size)).mono ?_))
  rintro e w9 ⟨rfl, hP, hB⟩
  have hB9 := HB8.out.trans hB
  obtain ⟨sa, hsa⟩ : ∃ s, s = noteL s0 rs := ⟨_, rfl⟩
  obtain ⟨sb, hsb⟩ : ∃ s, s = noteL s0 qs := ⟨_, rfl⟩
  obtain ⟨sc, hsc⟩ : ∃ s, s = noteL (noteL s0 rs) qs := ⟨_, rfl⟩
  have HT : Hid (Tri w ba bb bc sa sb sc w9) := by
    refine ⟨?_, ?_, ?_, HB6.out.trans (hB9.mono HB6.out.size)⟩
    · rw [hsa]; exact HPa6.out.later hB9
    · rw [hsb]; exact HPb.out.later hB9
    · rw [hsc]; exact hP.weak
  have HFI := hidr (show sc.first = rs.head?.or qs.head? by rw [hsc, noteL_first, noteL_first]; rfl)
  have HHA := hidr (show sa.high = HH rs by rw [hsa, noteL_high]; rfl)
  have HHB := hidr (show sb.high = HH qs by rw [hsb, noteL_high]; rfl)
  have HHC := hidr (show sc.high = merge (HH rs) (HH qs) by rw [hsc, noteL_high, noteL_high]; exact high_split rs qs)
  have HNA := hidr (show sa.named = NN rs by rw [hsa, noteL_named]; rfl)
  have HNB := hidr (show sb.named = NN qs by rw [hsb, noteL_named]; rfl)
  have HNC := hidr (show sc.named = qs.foldl nstep (NN rs) by rw [hsc, noteL_named, noteL_named]; rfl)
  clear hsa hsb hsc hP hB hB9 HB8 HP8 HB6 HPa6 HPb
  obtain ⟨fp, fn, fm, ft, fb, hvf, -⟩ := vv_form (rs.head?.or qs.head?)
  have HVF := hidr hvf
  clear hvf
  go_wp2_with (go_at_call 12; go_must (refine (viewF bc sc _ HT.out.2.2.1 _ HFI.out).mono ?_))
  rintro e w10 ⟨rfl, hB⟩
  have HT := hidr (HT.out.later hB)
  clear hB
  rw [HVF.out]
  go_upto_if 46 with (fail)
  have HT5 := hidr (HT.out.alloc (.cells #[.int .i64 fp, .int .i64 fn, .string fm, .string ft, .bool fb] 29))
  have HN8 := hidr (blk_new w10 (.cells #[.int .i64 fp, .int .i64 fn, .string fm, .string ft, .bool fb] 29))
  generalize w10.alloc (.cells #[.int .i64 fp, .int .i64 fn, .string fm, .string ft, .bool fb] 29) = W5 at HT5 HN8 ⊢
  generalize w10.heap.size = N8 at HN8 ⊢
  clear HT
  go_cut [] from 46 to 64 (fun wx => Hid (Tri w ba bb bc sa sb sc wx))
  case first =>
    by_cases h0 : rs = []
    case neg =>
      have hle0 : 0 < rs.length := by cases rs with | nil => exact absurd rfl h0 | cons => simp
      have b0 : decide ((0 : Int) < (rs.length : Int)) = true := decide_eq_true (by omega)
      have i0 : (0 : Int) < (rs.length : Int) := by omega
      rcases HR.out with h | ⟨b, off, rfl, hc⟩
      · exact absurd h h0
      have hd := fun x : Wd W5 => HR.out.cellsAt (HT5.out.later x.h).2.2.2 0 hle0
      have hf0 : rs.head?.or qs.head? = some (rs.getD 0 zeroRef) := by cases rs with | nil => exact absurd rfl h0 | cons => rfl
      obtain ⟨r0, hr0⟩ : ∃ r0, r0 = rs.getD 0 zeroRef := ⟨_, rfl⟩
      rw [← hr0] at hd hf0
      obtain ⟨p, n, m, tx⟩ := r0
      have hvf := HVF.out
      rw [hf0] at hvf
      simp [vv] at hvf
      obtain ⟨rfl, rfl, rfl, rfl, rfl⟩ := hvf
      have U : ∀ x : Wd W5, Calls Try.prog 13 #[.agg #[.int .i64 p, .int .i64 n, .string m, .string tx]] x.w fun e w' => e = .returned (.agg #[.int .i64 p, .int .i64 n, .string m, .string tx, .bool true]) ∧ ∃ y : Wd W5, w' = y.w := fun x =>
        calls_wd (refOf_any ⟨p, n, m, tx⟩ x.w)
      have HU := hidr U
      have d0 := fun x => (hd x).1
      have d1 := fun x => (hd x).2.1
      have d2 := fun x => (hd x).2.2.1
      have d3 := fun x => (hd x).2.2.2
      simp only [Nat.zero_mul, Nat.add_zero] at d0 d1 d2 d3
      have z : ∀ x : Wd W5, _ := fun x => cells5 (x.at HN8.out)
      have z0 := fun x => (z x).1
      have z1 := fun x => (z x).2.1
      have z2 := fun x => (z x).2.2.1
      have z3 := fun x => (z x).2.2.2.1
      have z4 := fun x => (z x).2.2.2.2
      clear z
      clear U hd hc hr0 hf0 h0
      go_wp2
      refine region_wd (by kernel_rfl) (by kernel_rfl) ?_
      repeat (go_big_quiet_step ((go_at_call 13; exact HU.out _)))
      refine wpQuiet_nil ?_
      rintro _ ⟨x, rfl⟩
      go_wp2
      go_meet
      case rel => exact HT5.out.later x.h
    case pos =>
    subst h0
    by_cases h0 : qs = []
    case neg =>
      have hle0 : 0 < qs.length := by cases qs with | nil => exact absurd rfl h0 | cons => simp
      have b0 : decide ((0 : Int) < (qs.length : Int)) = true := decide_eq_true (by omega)
      have i0 : (0 : Int) < (qs.length : Int) := by omega
      rcases HQ.out with h | ⟨b, off, rfl, hc⟩
      · exact absurd h h0
      have hd := fun x : Wd W5 => HQ.out.cellsAt (HT5.out.later x.h).2.2.2 0 hle0
      have hf0 : ([] : List RR).head?.or qs.head? = some (qs.getD 0 zeroRef) := by cases qs with | nil => exact absurd rfl h0 | cons => rfl
      obtain ⟨r0, hr0⟩ : ∃ r0, r0 = qs.getD 0 zeroRef := ⟨_, rfl⟩
      rw [← hr0] at hd hf0
      obtain ⟨p, n, m, tx⟩ := r0
      have hvf := HVF.out
      rw [hf0] at hvf
      simp [vv] at hvf
      obtain ⟨rfl, rfl, rfl, rfl, rfl⟩ := hvf
      have U : ∀ x : Wd W5, Calls Try.prog 13 #[.agg #[.int .i64 p, .int .i64 n, .string m, .string tx]] x.w fun e w' => e = .returned (.agg #[.int .i64 p, .int .i64 n, .string m, .string tx, .bool true]) ∧ ∃ y : Wd W5, w' = y.w := fun x =>
        calls_wd (refOf_any ⟨p, n, m, tx⟩ x.w)
      have HU := hidr U
      have d0 := fun x => (hd x).1
      have d1 := fun x => (hd x).2.1
      have d2 := fun x => (hd x).2.2.1
      have d3 := fun x => (hd x).2.2.2
      simp only [Nat.zero_mul, Nat.add_zero] at d0 d1 d2 d3
      have z : ∀ x : Wd W5, _ := fun x => cells5 (x.at HN8.out)
      have z0 := fun x => (z x).1
      have z1 := fun x => (z x).2.1
      have z2 := fun x => (z x).2.2.1
      have z3 := fun x => (z x).2.2.2.1
      have z4 := fun x => (z x).2.2.2.2
      clear z
      clear U hd hc hr0 hf0 h0
      go_wp2
      refine region_wd (by kernel_rfl) (by kernel_rfl) ?_
      repeat (go_big_quiet_step ((go_at_call 13; exact HU.out _)))
      refine wpQuiet_nil ?_
      rintro _ ⟨x, rfl⟩
      go_wp2
      go_meet
      case rel => exact HT5.out.later x.h
    case pos =>
      subst h0
      have hvf := HVF.out
      simp [vv] at hvf
      obtain ⟨rfl, rfl, rfl, rfl, rfl⟩ := hvf
      obtain ⟨z0, z1, z2, z3, z4⟩ := cells5 HN8.out
      go_wp2
      go_meet
      case rel => exact HT5
  case rest =>
  clear HT5 HN8 HVF
  have HT := hcut
  clear hcut HFI
  obtain ⟨p1, n1, m1, t1, b1, hv1, hb1⟩ := vv_form (HH rs)
  obtain ⟨p2, n2, m2, t2, b2, hv2, hb2⟩ := vv_form (HH qs)
  have HV1 := hidr hv1
  have HV2 := hidr hv2
  have HB1 := hidr hb1
  have HB2 := hidr hb2
  clear hv1 hv2 hb1 hb2
  go_wp2_with (go_at_call 15; go_must (refine (viewH ba sa _ HT.out.1 _ HHA.out).mono ?_))
  rintro e w11 ⟨rfl, hB⟩
  replace HT := hidr (HT.out.later hB)
  clear hB
  rw [HV1.out]
  have HTa := hidr (HT.out.alloc (.cells #[.int .i64 p1, .int .i64 n1, .string m1, .string t1, .bool b1] 29))
  have HN9 := hidr (blk_new w11 (.cells #[.int .i64 p1, .int .i64 n1, .string m1, .string t1, .bool b1] 29))
  go_wp2_with (go_at_call 15; go_must (refine (viewH bb sb _ HTa.out.2.1 _ HHB.out).mono ?_))
  rintro e w12 ⟨rfl, hB⟩
  replace HN9 := hidr ((hB.block _ (by simp)).trans HN9.out)
  replace HT := hidr (HTa.out.later hB)
  clear hB HTa
  rw [HV2.out]
  generalize w11.heap.size = N9 at HN9 ⊢
  have l9 := lt_of_heap HN9.out
  go_upto_region 24 with (fail)
  have HT13 := hidr (HT.out.alloc (.cells #[.int .i64 p2, .int .i64 n2, .string m2, .string t2, .bool b2] 29))
  have H10 := hidr (blk_new w12 (.cells #[.int .i64 p2, .int .i64 n2, .string m2, .string t2, .bool b2] 29))
  have H9 := hidr ((Below.heap_alloc w12 (.cells #[.int .i64 p2, .int .i64 n2, .string m2, .string t2, .bool b2] 29) _ l9).trans HN9.out)
  rw [← size_new w12 (.cells #[.int .i64 p2, .int .i64 n2, .string m2, .string t2, .bool b2] 29)]
  generalize w12.alloc (.cells #[.int .i64 p2, .int .i64 n2, .string m2, .string t2, .bool b2] 29) = w13 at HT13 H10 H9 ⊢
  generalize w12.heap.size = N10 at H10 ⊢
  clear HT HN9 l9
  have l9 := lt_of_heap H9.out
  have l10 := lt_of_heap H10.out
  obtain ⟨y0, y1, y2, y3, y4⟩ := cells5 H9.out
  obtain ⟨x0, x1, x2, x3, x4⟩ := cells5 H10.out
  obtain ⟨c, hc⟩ : ∃ c, c = (b1 && (!b2 || decide (n2 ≤ n1))) := ⟨_, rfl⟩
  have HC := hidr hc
  clear hc
  go_cut [83] from 70 to 82 (fun v wx => v = .bool c ∧ wx = w13.alloc (.cells #[.int .i64 p2, .int .i64 n2, .string m2, .string t2, .bool b2] 29))
  case first =>
    cases b1 with
    | false =>
      have hc := HC.out
      simp at hc
      subst hc
      go_wp2
      go_meet
      case rel => exact ⟨rfl, rfl⟩
    | true =>
      cases b2 with
      | false =>
        have hc := HC.out
        simp at hc
        subst hc
        go_wp2
        go_meet
        case rel => exact ⟨rfl, rfl⟩
      | true =>
        have hc := HC.out
        simp at hc
        clear HC
        cases hd : decide (n2 ≤ n1)
        · rw [hd] at hc
          subst hc
          go_wp2
          go_meet
          case rel => exact ⟨rfl, rfl⟩
        · rw [hd] at hc
          subst hc
          go_wp2
          go_meet
          case rel => exact ⟨rfl, rfl⟩
  case rest =>
  obtain ⟨rfl, rfl⟩ := hcut
  obtain ⟨gp, gn, gm, gt, gb, hvm, -⟩ := vv_form (merge (HH rs) (HH qs))
  have HVM := hidr hvm
  have HMV := hidr (merge_vv (HH rs) (HH qs) p1 n1 p2 n2 m1 t1 m2 t2 b1 b2 HV1.out HV2.out)
  clear hvm
  go_upto_if 83 with (fail)
  go_cut [] from 83 to 84 (fun wx => Hid (Tri w ba bb bc sa sb sc wx ∧ wx.heap[w13.heap.size]? = some (.cells #[.int .i64 gp, .int .i64 gn, .string gm, .string gt, .bool gb] 29 (0, 0))))
  case first =>
    cases c with
    | false =>
      have hx : vv (merge (HH rs) (HH qs)) = vv (HH qs) := by rw [HMV.out, ← HC.out]; rfl
      rw [HVM.out, HV2.out] at hx
      simp at hx
      obtain ⟨rfl, rfl, rfl, rfl, rfl⟩ := hx
      go_wp2
      go_meet
      case rel => exact ⟨HT13.out.alloc _, blk_new _ _⟩
    | true =>
      have hx : vv (merge (HH rs) (HH qs)) = vv (HH rs) := by rw [HMV.out, ← HC.out]; rfl
      rw [HVM.out, HV1.out] at hx
      simp at hx
      obtain ⟨rfl, rfl, rfl, rfl, rfl⟩ := hx
      go_wp2
      go_meet
      case rel => exact ⟨HT13.out.alloc _, blk_new _ _⟩
  case rest =>
  clear HT13 H10 H9 l9 l10 y0 y1 y2 y3 y4 x0 x1 x2 x3 x4 HC HMV HV1 HV2 HB1 HB2 HHA HHB
  generalize w13.heap.size = N11 at hcut ⊢
  have V : ∀ x : Wd wc, Calls Try.prog 15 #[.pointer (some ⟨bc, 0, none⟩)] x.w fun e w' => e = .returned (.agg #[.int .i64 gp, .int .i64 gn, .string gm, .string gt, .bool gb]) ∧ ∃ y : Wd wc, w' = y.w := fun x =>
    calls_wd (by have := viewH bc sc x.w (hcut.out.1.later x.h).2.2.1 _ HHC.out; rw [HVM.out] at this; exact this)
  have HV := hidr V
  have z : ∀ x : Wd wc, _ := fun x => cells5 (x.at hcut.out.2)
  have z0 := fun x => (z x).1
  have z1 := fun x => (z x).2.1
  have z2 := fun x => (z x).2.2.1
  have z3 := fun x => (z x).2.2.2.1
  have z4 := fun x => (z x).2.2.2.2
  clear z V
  go_wp2
  refine region_wd (by kernel_rfl) (by kernel_rfl) ?_
  repeat (go_big_quiet_step ((go_at_call 15; exact HV.out _)))
  refine wpQuiet_nil ?_
  rintro _ ⟨x, rfl⟩
  have HT := hidr (hcut.out.1.later x.h)
  generalize x.w = w14 at HT ⊢
  clear hcut z0 z1 z2 z3 z4 HV HVM HHC x
  go_wp2
  go_loopw [12] (fun z wr => ∃ k : Nat, k ≤ rs.length + qs.length ∧ z = .int .i64 k ∧ Hid (Tri w ba bb bc sa sb sc wr)) (fun x _ => rs.length + qs.length - (intOf x).toNat)
  case atStart => exact ⟨0, by omega, by go_num, HT⟩
  case round =>
    clear HT
    obtain ⟨k, hk, rfl, HT⟩ := hrel
    by_cases hlt : k < rs.length + qs.length
    · have i1 : (k : Int) < (rs.length : Int) + (qs.length : Int) := by omega
      go_upto_if 101 with (fail)
      go_cut [13] from 101 to 114 (fun v wx => ∃ s, v = .string s ∧ Hid (s ≠ ⟨#[]⟩ → (look (NN rs) s).or (look (NN qs) s) ≠ none) ∧ Hid (Tri w ba bb bc sa sb sc wx))
      case first =>
        by_cases hka : k < rs.length
        · rcases HR.out with h | ⟨b, off, rfl, hc⟩
          · rw [h] at hka; simp at hka
          have i2 : (k : Int) < (rs.length : Int) := by omega
          have dk : decide ((k : Int) < (rs.length : Int)) = true := decide_eq_true i2
          obtain ⟨-, -, c2, -⟩ := HR.out.cellsAt HT.out.2.2.2 k hka
          have hna := named_at rs k hka
          obtain ⟨nm, hnm⟩ : ∃ nm, nm = (rs.getD k zeroRef).name := ⟨_, rfl⟩
          rw [← hnm] at c2 hna
          have HNX := hidr hna
          clear hnm hna hc
          go_wp2
          go_meet
          case rel =>
            refine ⟨nm, rfl, fun hn he => ?_, HT⟩
            obtain ⟨j, -, -, hl⟩ := HNX.out hn
            rw [hl] at he
            cases he
        · rcases HQ.out with h | ⟨b, off, rfl, hc⟩
          · rw [h] at hlt; simp at hlt; omega
          have hkq : k - rs.length < qs.length := by omega
          have dk : decide ((k : Int) < (rs.length : Int)) = false := decide_eq_false (by omega)
          have i3 : (0 : Int) ≤ (k : Int) - (rs.length : Int) := by omega
          have i4 : (k : Int) - (rs.length : Int) < (qs.length : Int) := by omega
          have i5 : ((k : Int) - (rs.length : Int)).toNat = k - rs.length := by omega
          obtain ⟨-, -, c2, -⟩ := HQ.out.cellsAt HT.out.2.2.2 (k - rs.length) hkq
          have hna := named_at qs (k - rs.length) hkq
          obtain ⟨nm, hnm⟩ : ∃ nm, nm = (qs.getD (k - rs.length) zeroRef).name := ⟨_, rfl⟩
          rw [← hnm] at c2 hna
          have HNX := hidr hna
          clear hnm hna hc
          go_wp2
          go_meet
          case rel =>
            refine ⟨nm, rfl, fun hn he => ?_, HT⟩
            obtain ⟨j, -, -, hl⟩ := HNX.out hn
            rw [or_none, hl] at he
            cases he.2
      case rest =>
      clear HT
      obtain ⟨s, rfl, HFD, HT⟩ := hcut
      by_cases hs : s = ⟨#[]⟩
      · subst hs
        go_wp2
        go_roundw
        case rel => exact ⟨k + 1, by omega, by go_num, HT⟩
        case measure => simp [intOf]; omega
      · have bn : s.toList.isEmpty = false := toList_ne s hs
        have bn2 : ¬ s.toList = [] := fun e => by rw [e] at bn; cases bn
        have HS := hidr hs
        clear hs
        obtain ⟨p1, n1, m1, t1, b1, hv1, hb1⟩ := vv_form (look (NN rs) s)
        obtain ⟨op, on, om, ot, ob, hvo, hob⟩ := vv_form ((look (NN rs) s).or (look (NN qs) s))
        obtain rfl : ob = true := by
          rw [hob]
          cases hh : (look (NN rs) s).or (look (NN qs) s) with
          | none => exact absurd hh (HFD.out HS.out)
          | some x => rfl
        have HV1 := hidr hv1
        have HB1 := hidr hb1
        have HVO := hidr hvo
        clear hv1 hb1 hvo hob
        go_wp2_with (go_at_call 17; go_must (refine (viewN ba sa _ s HT.out.1 (look (NN rs) s) (by rw [HNA.out])).mono ?_))
        rintro e we ⟨rfl, hB⟩
        replace HT := hidr (HT.out.later hB)
        clear hB
        rw [HV1.out]
        go_upto_if 122 with (fail)
        go_cut [] from 122 to 125 (fun wx => Hid (Tri w ba bb bc sa sb sc wx ∧ wx.heap[we.heap.size]? = some (.cells #[.int .i64 op, .int .i64 on, .string om, .string ot, .bool true] 29 (0, 0))))
        case first =>
          cases b1 with
          | true =>
            have hx : vv ((look (NN rs) s).or (look (NN qs) s)) = vv (look (NN rs) s) := by
              cases hh : look (NN rs) s with
              | none => have := HB1.out; rw [hh] at this; cases this
              | some y => rfl
            rw [HVO.out, HV1.out] at hx
            simp at hx
            obtain ⟨rfl, rfl, rfl, rfl⟩ := hx
            go_wp2
            go_meet
            case rel => exact ⟨HT.out.alloc _, blk_new _ _⟩
          | false =>
            have hx : vv ((look (NN rs) s).or (look (NN qs) s)) = vv (look (NN qs) s) := by
              cases hh : look (NN rs) s with
              | none => rfl
              | some y => have := HB1.out; rw [hh] at this; cases this
            rw [HVO.out] at hx
            have HX := hidr hx
            clear hx
            have HTb := hidr (HT.out.alloc (.cells #[.int .i64 p1, .int .i64 n1, .string m1, .string t1, .bool false] 29))
            have HNb := hidr (blk_new we (.cells #[.int .i64 p1, .int .i64 n1, .string m1, .string t1, .bool false] 29))
            go_wp2_with (go_at_call 17; go_must (refine (viewN bb sb _ s HTb.out.2.1 (look (NN qs) s) (by rw [HNB.out])).mono ?_))
            rintro e wf ⟨rfl, hB⟩
            have hNf := (hB.block _ (by simp)).trans HNb.out
            have hBf : Below we.heap.size we wf := ((Below.refl _ _).alloc (Nat.le_refl _) _).trans (hB.mono (by simp))
            obtain ⟨z0, z1, z2, z3, z4⟩ := cells5 hNf
            have f : ∀ i, wf.frozen? ⟨we.heap.size, i, none⟩ = false := fun i => by simp [World.frozen?, hNf]
            have f0 := f 0
            have f1 := f 1
            have f2 := f 2
            have f3 := f 3
            have f4 := f 4
            have HNf := hidr hNf
            have HBf := hidr hBf
            clear hNf hBf hB f HTb HNb
            rw [← HX.out]
            go_wp2
            go_meet
            case rel =>
              have h5 := fun v0 v1 v2 v3 v4 => set5 (v0 := v0) (v1 := v1) (v2 := v2) (v3 := v3) (v4 := v4) HNf.out HBf.out
              exact ⟨HT.out.later (h5 _ _ _ _ _).2, (h5 _ _ _ _ _).1⟩
        case rest =>
        clear HT HV1 HB1
        generalize we.heap.size = N14 at hcut ⊢
        have HCU := hcut
        clear hcut
        have V : ∀ x : Wd wc, Calls Try.prog 17 #[.pointer (some ⟨bc, 0, none⟩), .string s] x.w fun e w' => e = .returned (.agg #[.int .i64 op, .int .i64 on, .string om, .string ot, .bool true]) ∧ ∃ y : Wd wc, w' = y.w := fun x =>
          calls_wd (by have := viewN bc sc x.w s (HCU.out.1.later x.h).2.2.1 ((look (NN rs) s).or (look (NN qs) s)) (by rw [HNC.out, look_split _ _ _ HS.out]); rw [HVO.out] at this; exact this)
        have HV := hidr V
        have z : ∀ x : Wd wc, _ := fun x => cells5 (x.at HCU.out.2)
        have z0 := fun x => (z x).1
        have z1 := fun x => (z x).2.1
        have z2 := fun x => (z x).2.2.1
        have z3 := fun x => (z x).2.2.2.1
        have z4 := fun x => (z x).2.2.2.2
        clear z V
        go_wp2
        refine region_wd (by kernel_rfl) (by kernel_rfl) ?_
        repeat (go_big_quiet_step ((go_at_call 17; exact HV.out _)))
        refine wpQuiet_nil ?_
        rintro _ ⟨x, rfl⟩
        have HTx := hidr (HCU.out.1.later x.h)
        generalize x.w = w15 at HTx ⊢
        clear z0 z1 z2 z3 z4 HCU HV x
        go_wp2
        go_roundw
        case rel => exact ⟨k + 1, by omega, by go_num, HTx⟩
        case measure => simp [intOf]; omega
    · obtain rfl : k = rs.length + qs.length := by omega
      have i1 : ¬ (((rs.length + qs.length : Nat) : Int) < (rs.length : Int) + (qs.length : Int)) := by omega
      go_wp2
      go_loopw [15, 16] (fun d z wr => ∃ k D : Nat, k ≤ qs.length ∧ D ≤ k ∧ z = .int .i64 k ∧ d = .int .i64 D ∧ Hid (D + ((qs.take k).foldl nstep (NN rs)).length = (NN rs).length + (NN (qs.take k)).length) ∧ Hid (Tri w ba bb bc sa sb sc wr)) (fun _ x _ => qs.length - (intOf x).toNat)
      case atStart => exact ⟨0, 0, by omega, by omega, by go_num, by go_num, by show _ = _; simp [NN], HT⟩
      case round =>
        clear HT
        obtain ⟨k, D, hk, hDk, rfl, rfl, hD, HT⟩ := hrel
        by_cases hlt : k < qs.length
        · rcases HQ.out with h | ⟨b, off, rfl, hc⟩
          · rw [h] at hlt; simp at hlt
          have i2 : (k : Int) < (qs.length : Int) := by omega
          obtain ⟨-, -, c2, -⟩ := HQ.out.cellsAt HT.out.2.2.2 k hlt
          have hlen := NN_len qs k hlt
          have hcnt := count_step rs qs k hlt
          have hnat := named_at qs k hlt
          obtain ⟨nm, hnm⟩ : ∃ nm, nm = (qs.getD k zeroRef).name := ⟨_, rfl⟩
          rw [← hnm] at c2 hlen hnat hcnt
          have HLN := hidr hlen
          have HCT := hidr hcnt
          have HNT := hidr hnat
          clear hc hlen hnat hnm hcnt
          by_cases hn : nm = ⟨#[]⟩
          · have HX := hidr (show D + ((qs.take (k + 1)).foldl nstep (NN rs)).length = (NN rs).length + (NN (qs.take (k + 1))).length by
              rw [HLN.out, HCT.out, if_neg (fun h => h.1.1 hn), if_neg (fun h => h.1 hn)]; exact hD.out)
            subst hn
            go_wp2
            go_roundw
            case rel => exact ⟨k + 1, D, by omega, by omega, by go_num, by go_num, HX, HT⟩
            case measure => simp [intOf]; omega
          · have bn : nm.toList.isEmpty = false := toList_ne nm hn
            have bn2 : ¬ nm.toList = [] := fun e => by rw [e] at bn; cases bn
            obtain ⟨j, hj, hjl, -⟩ := HNT.out hn
            have HJ := hidr hj
            have HN := hidr hn
            clear hj hn HNT
            go_wp2_with (go_at_call 16; go_must (refine (fwn_any (some ⟨b, off, none⟩) cap1 qs nm _ (HQ.out.later HT.out.2.2.2 HQ.out.low) HL1.out j (by rw [HJ.out]; rfl)).mono ?_))
            rintro e wr ⟨rfl, rfl⟩
            by_cases hjk : j = k
            · subst hjk
              obtain ⟨p1, n1, m1, t1, b1, hv1, hb1⟩ := vv_form (look (NN rs) nm)
              have HV1 := hidr hv1
              have HB1 := hidr hb1
              clear hv1 hb1
              go_wp2_with (go_at_call 17; go_must (refine (viewN ba sa _ nm HT.out.1 (look (NN rs) nm) (by rw [HNA.out])).mono ?_))
              rintro e we ⟨rfl, hB⟩
              replace HT := hidr (HT.out.later hB)
              clear hB
              rw [HV1.out]
              cases b1 with
              | true =>
                have hne : ¬ look (NN rs) nm = none := fun e => by have := HB1.out; rw [e] at this; cases this
                have HX := hidr (show (D + 1) + ((qs.take (j + 1)).foldl nstep (NN rs)).length = (NN rs).length + (NN (qs.take (j + 1))).length by
                  rw [HLN.out, HCT.out, if_neg (fun h => hne h.2), if_pos ⟨HN.out, HJ.out⟩]; have := hD.out; omega)
                clear hne
                go_wp2
                go_roundw
                case rel => exact ⟨j + 1, D + 1, by omega, by omega, by go_num, by go_num, HX, HT⟩
                case measure => simp [intOf]; omega
              | false =>
                have hne : look (NN rs) nm = none := by
                  cases hh : look (NN rs) nm with
                  | none => rfl
                  | some y => have := HB1.out; rw [hh] at this; cases this
                have HX := hidr (show D + ((qs.take (j + 1)).foldl nstep (NN rs)).length = (NN rs).length + (NN (qs.take (j + 1))).length by
                  rw [HLN.out, HCT.out, if_pos ⟨⟨HN.out, HJ.out⟩, hne⟩, if_pos ⟨HN.out, HJ.out⟩]; have := hD.out; omega)
                clear hne
                go_wp2
                go_roundw
                case rel => exact ⟨j + 1, D, by omega, by omega, by go_num, by go_num, HX, HT⟩
                case measure => simp [intOf]; omega
            · have bj : ((j : Int) == (k : Int)) = false := by rw [beq_eq_false_iff_ne]; omega
              have HX := hidr (show D + ((qs.take (k + 1)).foldl nstep (NN rs)).length = (NN rs).length + (NN (qs.take (k + 1))).length by
                have hnk : ¬ fwn qs nm = some k := fun h => hjk (by rw [HJ.out] at h; exact Option.some.inj h)
                rw [HLN.out, HCT.out, if_neg (fun h => hnk h.1.2), if_neg (fun h => hnk h.2)]; exact hD.out)
              go_wp2
              go_roundw
              case rel => exact ⟨k + 1, D, by omega, by omega, by go_num, by go_num, HX, HT⟩
              case measure => simp [intOf]; omega
        · obtain rfl : k = qs.length := by omega
          have hD1 := hD.out
          rw [List.take_length] at hD1
          have l1 : (NN rs).length ≤ rs.length := by have := fold_le rs []; simpa [NN] using this
          have l2 : (NN qs).length ≤ qs.length := by have := fold_le qs []; simpa [NN] using this
          obtain ⟨CA, hCA⟩ : ∃ n, n = (NN rs).length := ⟨_, rfl⟩
          obtain ⟨CB, hCB⟩ : ∃ n, n = (NN qs).length := ⟨_, rfl⟩
          obtain ⟨CC, hCC⟩ : ∃ n, n = (qs.foldl nstep (NN rs)).length := ⟨_, rfl⟩
          rw [← hCA, ← hCB, ← hCC] at hD1
          rw [← hCA] at l1
          rw [← hCB] at l2
          have bC : ((CC : Int) == (CA : Int) + (CB : Int) - (D : Int)) = true := by rw [beq_iff_eq]; omega
          have lC : CC ≤ CA + CB := by omega
          have ea := hidr (show sa.named.length = CA by rw [HNA.out, hCA])
          have eb := hidr (show sb.named.length = CB by rw [HNB.out, hCB])
          have ec := hidr (show sc.named.length = CC by rw [HNC.out, hCC])
          clear hCA hCB hCC hD1
          go_wp2_with (go_at_call 18; go_must (refine (namedCount_any 0 bc sc _ HT.out.2.2.1).mono ?_))
          rintro e wr ⟨rfl, rfl⟩
          rw [ec.out]
          go_wp2_with (go_at_call 18; go_must (refine (namedCount_any 0 ba sa _ HT.out.1).mono ?_))
          rintro e wr ⟨rfl, rfl⟩
          rw [ea.out]
          go_wp2_with (go_at_call 18; go_must (refine (namedCount_any 0 bb sb _ HT.out.2.1).mono ?_))
          rintro e wr ⟨rfl, rfl⟩
          rw [eb.out]
          go_wp2
          go_ret
          exact ⟨rfl, HT.out.2.2.2⟩
end Go.Proofs.Qxb6618085a
