import Derived.Test.Qxb6617989aDoorLaw2
import Derived.Deep.DeepCutAuto
import Derived.Deep.RegionWith
namespace Go.Proofs.Qxb6617989aDoor
open Go.RowKit

/-- A callee's contract in a quiet walk that begins behind k draws. -/
theorem quiet_of_at {P : Program} {f : FuncId} {args : Array Value} {w : World} {k x : Nat} {v : Value}
    (h : Calls P f args (w.drewN (k + x)) fun e w' => e = .returned v ∧ ∃ m, w' = (w.drewN (k + x)).drewN m) : Calls P f args (w.drewN (k + x)) fun e w'' => e = .returned v ∧ ∃ n, w'' = w.drewN (k + n) :=
  h.mono fun _ _ ⟨he, m, hm⟩ => ⟨he, x + m, by rw [hm, World.drewN_drewN, Nat.add_assoc]⟩

theorem ED_len_eq (u : Nat) : (ED u).length = if (dec u).length < 2 then 2 else (dec u).length := by
  unfold ED pad
  by_cases hu : u < 10
  · rw [if_pos hu, dec_small hu]; simp
  · have := dec_two hu
    rw [if_neg hu, if_neg (by omega)]; simp

theorem mant_alt_big (G : List Int) (n : Nat) (h : 1 < n) : mant G n true = mant G n false := by
  have : dot n true = dot n false := by simp [dot, dotB, h]
  unfold mant
  rw [this]

theorem mant_one (G : List Int) (h1 : 1 ≤ G.length) (h : G.length ≤ 1) : mant G 1 false = [G.getD 0 0] ∧ mant G 1 true = [G.getD 0 0] ++ [46] := by
  obtain ⟨d, rfl⟩ : ∃ d, G = [d] := by
    match G, h1, h with
    | [d], _, _ => exact ⟨d, rfl⟩
  constructor <;> simp [mant, dot, dotB, padded, zeros]

theorem sgn_neg (ex : Int) : sgn (-ex) = if 0 < ex then 45 else 43 := by
  unfold sgn
  by_cases h : 0 < ex
  · rw [if_pos (by omega), if_pos h]
  · rw [if_neg (by omega), if_neg h]

set_option maxRecDepth 100000 in
set_option maxHeartbeats 1000000 in
theorem law2_main (a0 : Option Addr) (c0 b off c1 : Nat) (D G : List Int) (n : Nat) (ex : Int) (w : World)
    (hD : Row w a0 D) (hG : ∀ i, i < G.length → w.cell? ⟨b, off + i, none⟩ = some (.int .u8 (G.getD i 0)))
    (hDl : D.length ≤ 65536) (hGl : 1 ≤ G.length) (hGn : G.length ≤ n) (hn : n ≤ 65536) (he0 : -1073741824 ≤ ex) (he1 : ex ≤ 1073741824) (htab : Tab w) :
    Calls Tryd.prog 4 #[.slice a0 D.length c0, .slice (some ⟨b, off, none⟩) G.length c1, .int .i64 n, .int .i64 ex] w fun e w' => e = .returned (.bool true) ∧ Below w.heap.size w w' := by
  have g1 : (n : Int) ≤ 65536 := by omega
  have g2 : (G.length : Int) ≤ (n : Int) := by omega
  have hG0 : w.cell? ⟨b, off, none⟩ = some (.int .u8 (G.getD 0 0)) := hG 0 (by omega)
  obtain ⟨d0, hd0⟩ : ∃ d0, d0 = G.getD 0 0 := ⟨_, rfl⟩
  rw [← hd0] at hG0
  have HD0 := hid hd0
  have rG : Row w (some ⟨b, off, none⟩) G := .inr ⟨b, off, rfl, hG⟩
  have HD := hid hD
  have HG := hid rG
  have HT := hid htab
  clear hD hG htab rG hd0
  have i1 : (0 : Int) < (G.length : Int) := by omega
  go_enter Tryd.func4, Tryd.ntmps4
  go_wp2_with (go_at_call 9; go_must (refine (zzBytes9_yes _ _ _ _ _ _ _ _ _ (by omega)).mono ?_); rintro e w ⟨rfl, rfl⟩)
  -- a
  go_at_call 6
  refine (cloneBytes_any _ _ _ G _ HG.out rfl (by omega)).mono ?_
  rintro e w1 ⟨x1, rfl, hx1, r1, b1⟩
  have R1 := hid r1
  have B1 := hid b1
  clear r1 b1 hx1
  go_wp2_with (go_at_call 6; go_must (refine (cloneBytes_any _ _ _ D _ (HD.out.later B1.out) rfl (by omega)).mono ?_); rintro e w2 ⟨x2, rfl, hx2, r2, b2⟩; refine Hid.out ?_)
  refine hid ?_
  have R2 := hid r2
  have N2 := hid hx2
  have B2 := hid (B1.out.trans (b2.mono B1.out.size))
  have R1' := hid (R1.out.later b2)
  clear r2 b2 hx2 R1 B1
  go_wp2_with (go_at_call 7; go_must (refine (zzG _ _ G n ex _ _ D false _ rfl hGl R1'.out rfl N2.out R2.out hDl hn hGn he0 he1 (Lib.tabBelow_of_tabIs HT.out _ B2.out)).mono ?_))
  rintro e w3 ⟨ga, capa, La, rfl, hLa, hca, hma, ra, b3⟩
  have HLA := hid hLa
  have RA := hid ra
  have B3 := hid (B2.out.trans (b3.mono B2.out.size))
  clear hLa ra b3 R1' N2 R2 B2
  go_wp2_with (go_at_call 6; go_must (refine (cloneBytes_any _ _ _ G _ (HG.out.later B3.out) rfl (by omega)).mono ?_); rintro e w4 ⟨x4, rfl, hx4, r4, b4⟩; refine Hid.out ?_)
  refine hid ?_
  have R4 := hid r4
  have B4 := hid (B3.out.trans (b4.mono B3.out.size))
  have RA := hid (RA.out.later b4)
  clear r4 b4 hx4 B3
  go_wp2_with (go_at_call 6; go_must (refine (cloneBytes_any _ _ _ D _ (HD.out.later B4.out) rfl (by omega)).mono ?_); rintro e w5 ⟨x5, rfl, hx5, r5, b5⟩; refine Hid.out ?_)
  refine hid ?_
  have R5 := hid r5
  have N5 := hid hx5
  have B5 := hid (B4.out.trans (b5.mono B4.out.size))
  have R4 := hid (R4.out.later b5)
  have RA := hid (RA.out.later b5)
  clear r5 b5 hx5 B4
  go_wp2_with (go_at_call 7; go_must (refine (zzG _ _ G n ex _ _ D true _ rfl hGl R4.out rfl N5.out R5.out hDl hn hGn (by omega) (by omega) (Lib.tabBelow_of_tabIs HT.out _ B5.out)).mono ?_))
  rintro e w6 ⟨gb, capb, Lb, rfl, hLb, hcb, hmb, rb, b6⟩
  have HLb := hid hLb
  have RB := hid rb
  have B6 := hid (B5.out.trans (b6.mono B5.out.size))
  have RA := hid (RA.out.later b6)
  clear hLb rb b6 R4 N5 R5 B5
  go_wp2_with (go_at_call 6; go_must (refine (cloneBytes_any _ _ _ G _ (HG.out.later B6.out) rfl (by omega)).mono ?_); rintro e w7 ⟨x7, rfl, hx7, r7, b7⟩; refine Hid.out ?_)
  refine hid ?_
  have R7 := hid r7
  have B7 := hid (B6.out.trans (b7.mono B6.out.size))
  have RA := hid (RA.out.later b7)
  have RB := hid (RB.out.later b7)
  clear r7 b7 hx7 B6
  go_wp2_with (go_at_call 6; go_must (refine (cloneBytes_any _ _ _ D _ (HD.out.later B7.out) rfl (by omega)).mono ?_); rintro e w8 ⟨x8, rfl, hx8, r8, b8⟩; refine Hid.out ?_)
  refine hid ?_
  have R8 := hid r8
  have N8 := hid hx8
  have B8 := hid (B7.out.trans (b8.mono B7.out.size))
  have R7 := hid (R7.out.later b8)
  have RA := hid (RA.out.later b8)
  have RB := hid (RB.out.later b8)
  clear r8 b8 hx8 B7
  go_wp2_with (go_at_call 7; go_must (refine (zzG _ _ G n (-ex) _ _ D false _ rfl hGl R7.out rfl N8.out R8.out hDl hn hGn (by omega) (by omega) (Lib.tabBelow_of_tabIs HT.out _ B8.out)).mono ?_))
  rintro e w9 ⟨gc, capc, Lc, rfl, hLc, hcc, hmc, rc, b9⟩
  have HLc := hid hLc
  have RC := hid rc
  have B9 := hid (B8.out.trans (b9.mono B8.out.size))
  have RA := hid (RA.out.later b9)
  have RB := hid (RB.out.later b9)
  clear hLc rc b9 R7 N8 R8 B8
  have hGT := hid (HD.out.later B9.out)
  clear HT HG HD
  obtain ⟨u, hu⟩ : ∃ u, u = ex.natAbs := ⟨_, rfl⟩
  obtain ⟨E, hE⟩ : ∃ E, E = ED u := ⟨_, rfl⟩
  obtain ⟨M0, hM0⟩ : ∃ M, M = mant G n false := ⟨_, rfl⟩
  obtain ⟨M1, hM1⟩ : ∃ M, M = mant G n true := ⟨_, rfl⟩
  have ta : txt D G n ex false = D ++ (M0 ++ (101 :: (sgn ex :: E))) := by rw [hM0, hE, hu]; rfl
  have tb : txt D G n ex true = D ++ (M1 ++ (101 :: (sgn ex :: E))) := by rw [hM1, hE, hu]; rfl
  have tc : txt D G n (-ex) false = D ++ (M0 ++ (101 :: (sgn (-ex) :: E))) := by rw [hM0, hE, hu, ← Int.natAbs_neg ex]; rfl
  rw [ta] at HLA RA
  rw [tb] at HLb RB
  rw [tc] at HLc RC
  have hM0l := mant_len G n false hGl hGn
  have hM1l := mant_len G n true hGl hGn
  rw [← hM0] at hM0l
  rw [← hM1] at hM1l
  have hEl := ED_len u (by omega)
  have hEk := ED_len_eq u
  rw [← hE] at hEl hEk
  obtain ⟨dl, hdl⟩ : ∃ dl, dl = (dot n false).length := ⟨_, rfl⟩
  obtain ⟨dk, hdk⟩ : ∃ dk, dk = (dec u).length := ⟨_, rfl⟩
  obtain ⟨el, hel⟩ : ∃ el, el = E.length := ⟨_, rfl⟩
  have hdl1 : dl ≤ 1 := by rw [hdl]; unfold dot; split <;> simp
  have hd1l : (dot n true).length = 1 := by simp [dot, dotB]
  rw [← hdl] at hM0l
  rw [hd1l] at hM1l
  rw [← hel, ← hdk] at hEk
  rw [← hel] at hEl
  have u1 : u ≤ 1073741824 := by omega
  have l1 : La ≤ D.length + n + dl + 2 + el := by rw [HLA.out]; simp; omega
  have l2 : D.length + n + dl + 2 + el ≤ La := by rw [HLA.out]; simp; omega
  have l3 : Lc ≤ D.length + n + dl + 2 + el := by rw [HLc.out]; simp; omega
  have l4 : D.length + n + dl + 2 + el ≤ Lc := by rw [HLc.out]; simp; omega
  have l5 : Lb ≤ D.length + n + 1 + 2 + el := by rw [HLb.out]; simp; omega
  have l6 : D.length + n + 1 + 2 + el ≤ Lb := by rw [HLb.out]; simp; omega
  have dk1 : dk ≤ 10 := by rw [hdk]; exact dec_le 9 u (by omega)
  have e1 : 2 ≤ el := hEl.1
  have e2 : el ≤ 10 := hEl.2
  have HU := hid hu
  have HE := hid hE
  have HM0 := hid hM0
  have HM1 := hid hM1
  have HM0L := hid hM0l
  have HDL := hid hdl
  have HDK := hid hdk
  have HEL := hid hel
  have HEK := hid hEk
  have HM1L := hid hM1l
  clear ta tb tc hu hE hM0 hM1 hM0l hM1l hEl hEk hdl hdk hel hd1l
  go_upto_if 76 with fail
  go_cut [13] from 74 to 78 (fun m wx => m = .int .i64 u ∧ w9 = wx)
  case first =>
    cases hs : decide (ex < 0)
    · have E1 := hid (show ex = (u : Int) by have := of_decide_eq_false hs; have := HU.out; omega)
      go_wp2
      go_meet
      case rel => exact ⟨by rw [E1.out], rfl⟩
    · have E1 := hid (show -ex = (u : Int) by have := of_decide_eq_true hs; have := HU.out; omega)
      go_wp2
      go_meet
      case rel => exact ⟨by rw [E1.out], rfl⟩
  case rest =>
  obtain ⟨rfl, rfl⟩ := hcut
  go_wp2_with (go_at_call 10; go_must (refine (decLen_any u _ u1).mono ?_); rintro e w9 ⟨rfl, rfl⟩; refine Hid.out ?_)
  refine hid ?_
  rw [← HDK.out]
  go_upto_if 82 with fail
  go_cut [14] from 79 to 82 (fun x wx => x = .int .i64 el ∧ w9 = wx)
  case first =>
    cases hs : decide ((dk : Int) < 2)
    · have E1 := hid (show dk = el by have := of_decide_eq_false hs; rw [HEK.out, if_neg (by omega)])
      go_wp2
      go_meet
      case rel => exact ⟨by rw [E1.out], rfl⟩
    · have E1 := hid (show el = 2 by have := of_decide_eq_true hs; rw [HEK.out, if_pos (by omega)])
      go_wp2
      go_meet
      case rel => exact ⟨by rw [E1.out]; rfl, rfl⟩
  case rest =>
  obtain ⟨rfl, rfl⟩ := hcut
  go_upto_if 84 with fail
  go_cut [15] from 83 to 84 (fun x wx => x = .int .i64 dl ∧ w9 = wx)
  case first =>
    cases hs : decide ((1 : Int) < (n : Int))
    · have E1 := hid (show dl = 0 by
        have h2 := of_decide_eq_false hs
        rw [HDL.out]; unfold dot dotB; rw [decide_eq_false (by omega)]; rfl)
      go_wp2
      go_meet
      case rel => exact ⟨by rw [E1.out]; rfl, rfl⟩
    · have E1 := hid (show dl = 1 by
        have h2 := of_decide_eq_true hs
        rw [HDL.out]; unfold dot dotB; rw [decide_eq_true (by omega)]; rfl)
      go_wp2
      go_meet
      case rel => exact ⟨by rw [E1.out]; rfl, rfl⟩
  case rest =>
  obtain ⟨rfl, rfl⟩ := hcut
  have fB : ((La : Int) != (D.length : Int) + (n : Int) + (dl : Int) + 2 + (el : Int)) = false := by simp; omega
  have rD : Row w9 (some ⟨ga, 0, none⟩) D := Row.sub [] D _ RA.out
  have HRD := hid rD
  have rR : Row w9 (some ⟨ga, 0 + D.length, none⟩) (M0 ++ (101 :: (sgn ex :: E))) := Row.sub D _ [] (by rw [List.append_nil]; exact RA.out)
  rw [Nat.zero_add] at rR
  have cp : w9.cell? ⟨ga, D.length, none⟩ = some (.int .u8 d0) := by
    rcases rR with h | ⟨bb, oo, hx, h⟩
    · simp at h
    · cases hx
      have := h 0 (by simp; omega)
      rw [Nat.add_zero, getD_left _ _ _ (by rw [HM0L.out]; omega), HM0.out, mant_get0 G n false hGl, padded_get_held _ _ _ (by omega), ← HD0.out] at this
      exact this
  clear rD rR
  have nc0 : ¬ capa = 0 := by omega
  go_wp2_with (go_at_call 8; go_must (refine (equalBytes_same _ _ _ _ _ _ _ _ HRD.out hGT.out rfl rfl (by omega)).mono ?_); rintro e wq ⟨rfl, kq, rfl⟩; refine Hid.out ?_)
  refine hid ?_
  go_upto_if 113 with fail
  go_cut [10] from 112 to 153 (fun x wx => x = .slice (some ⟨ga, 0, none⟩) La capa ∧ ∃ q, wx = w9.drewN q)
  case first =>
    cases hs : decide ((1 : Int) < (n : Int))
    rotate_left
    · have hb : 1 < n := by have := of_decide_eq_true hs; omega
      have em : M1 = M0 := by rw [HM1.out, HM0.out, mant_alt_big G n hb]
      rw [em] at RB HLb
      have hXl : (D ++ (M0 ++ (101 :: (sgn ex :: E)))).length ≤ 1048576 := by rw [← HLA.out]; omega
      have HXL := hid hXl
      clear em hXl hb
      go_wp2_with (go_at_call 8; go_must (refine (equalBytes_same _ _ _ _ _ _ _ _ (RB.out.drewN kq) (RA.out.drewN kq) HLb.out HLA.out HXL.out).mono ?_); rintro e wq ⟨rfl, kr, rfl⟩; refine Hid.out ?_)
      refine hid ?_
      go_wp2
      go_meet
      case rel => exact ⟨rfl, _, rfl⟩
    · have hb : ¬ 1 < n := by have := of_decide_eq_false hs; omega
      have hn1 : n = 1 := by omega
      have hm := mant_one G hGl (by omega)
      have e0 : M0 = [d0] := by rw [HM0.out, hn1, hm.1, ← HD0.out]
      have e1' : M1 = [d0] ++ [46] := by rw [HM1.out, hn1, hm.2, ← HD0.out]
      have hdl0 : dl = 0 := by have := HM0L.out; rw [e0] at this; simp at this; omega
      have RA2 := RA
      have RB2 := RB
      rw [e0] at RA2
      rw [e1'] at RB2
      have x1 : Row w9 (some ⟨gb, 0, none⟩) (D ++ [d0]) := Row.sub [] (D ++ [d0]) (46 :: (101 :: (sgn ex :: E))) (by simpa using RB2.out)
      have x2 : Row w9 (some ⟨ga, 0, none⟩) (D ++ [d0]) := Row.sub [] (D ++ [d0]) (101 :: (sgn ex :: E)) (by simpa using RA2.out)
      have x3 : Row w9 (some ⟨gb, 0 + (D ++ [d0, 46]).length, none⟩) (101 :: (sgn ex :: E)) := Row.sub (D ++ [d0, 46]) (101 :: (sgn ex :: E)) [] (by simpa using RB2.out)
      have x4 : Row w9 (some ⟨ga, 0 + (D ++ [d0]).length, none⟩) (101 :: (sgn ex :: E)) := Row.sub (D ++ [d0]) (101 :: (sgn ex :: E)) [] (by simpa using RA2.out)
      have x5 : w9.cell? ⟨gb, D.length + 1, none⟩ = some (.int .u8 46) := by
        rcases RB2.out with h | ⟨bb, oo, hx, h⟩
        · simp at h
        · cases hx
          have := h (D.length + 1) (by simp)
          rw [Nat.zero_add, getD_right] at this
          exact this
      have y3 : 0 + (D ++ [d0, 46]).length = D.length + 2 := by simp
      have y4 : 0 + (D ++ [d0]).length = D.length + 1 := by simp
      rw [y3] at x3
      rw [y4] at x4
      have X1 := hid x1
      have X2 := hid x2
      have X3 := hid x3
      have X4 := hid x4
      have hl1 : (D ++ [d0]).length = D.length + 1 := by simp
      have hl2 : (101 :: (sgn ex :: E)).length = el + 2 := by rw [List.length_cons, List.length_cons, ← HEL.out]
      have HL1 := hid hl1
      have HL2 := hid hl2
      have HN1 := hid hn1
      have HDL0 := hid hdl0
      have fC : ((Lb : Int) != (La : Int) + 1) = false := by simp; omega
      have n1 : ¬ capb = D.length + 2 := by omega
      have n2 : ¬ capa = D.length + 1 := by omega
      have n3 : ¬ capb = 0 := by omega
      have s1 : (D.length : Int) + 1 < (Lb : Int) := by omega
      have s2 : (D.length : Int) + 1 ≤ (capb : Int) := by omega
      have s3 : (D.length : Int) + 1 ≤ (capa : Int) := by omega
      have s4 : (D.length : Int) + 2 ≤ (Lb : Int) := by omega
      have s5 : (D.length : Int) + 1 ≤ (La : Int) := by omega
      have s6 : (0 : Int) ≤ (D.length : Int) + 1 := by omega
      have s7 : (0 : Int) ≤ (D.length : Int) + 2 := by omega
      clear hn1 hdl0 hm e0 e1' hb RA2 RB2 x1 x2 x3 x4 y3 y4 hl1 hl2
      go_wp2_with fail
      go_big_quiet (first
        | (go_at_call_of 8 (⟨gb, 0, none⟩ : Addr); go_must (exact quiet_of_at (equalBytes_same _ _ _ _ _ _ (D ++ [d0]) _ (X1.out.drewN _) (X2.out.drewN _) (by rw [HL1.out]) (by rw [HL1.out]) (by rw [HL1.out]; omega))))
        | (go_at_call 8; go_must (exact quiet_of_at (equalBytes_same _ _ _ _ _ _ (101 :: (sgn ex :: E)) _ (X3.out.drewN _) (X4.out.drewN _) (by rw [HL2.out]; have := HN1.out; have := HDL0.out; omega) (by rw [HL2.out]; have := HN1.out; have := HDL0.out; omega) (by rw [HL2.out]; omega)))))
      go_wp2
      go_meet
      case rel => exact ⟨rfl, _, World.drewN_drewN _ _ _⟩
  case rest =>
  obtain ⟨rfl, q1, rfl⟩ := hcut
  clear cp HRD
  have hpre : D ++ (M0 ++ (101 :: (sgn ex :: E))) = (D ++ (M0 ++ [101])) ++ (sgn ex :: E) := by simp
  have hprc : D ++ (M0 ++ (101 :: (sgn (-ex) :: E))) = (D ++ (M0 ++ [101])) ++ (sgn (-ex) :: E) := by simp
  have hpl : (D ++ (M0 ++ [101])).length = D.length + n + dl + 1 := by simp only [List.length_append, HM0L.out, List.length_cons, List.length_nil]; omega
  rw [hpre] at RA
  rw [hprc] at RC
  obtain ⟨Q, hQ⟩ : ∃ Q, Q = D ++ (M0 ++ [101]) := ⟨_, rfl⟩
  rw [← hQ] at RA RC hpl
  obtain ⟨sp, hsp⟩ : ∃ sp, sp = Q.length := ⟨_, rfl⟩
  rw [← hsp] at hpl
  have p1 : sp ≤ D.length + n + dl + 1 := by omega
  have p2 : D.length + n + dl + 1 ≤ sp := by omega
  have x1 : Row w9 (some ⟨ga, 0, none⟩) Q := Row.sub [] Q _ RA.out
  have x2 : Row w9 (some ⟨gc, 0, none⟩) Q := Row.sub [] Q _ RC.out
  have x3 : Row w9 (some ⟨ga, 0 + (Q ++ [sgn ex]).length, none⟩) E := Row.sub (Q ++ [sgn ex]) E [] (by simpa using RA.out)
  have x4 : Row w9 (some ⟨gc, 0 + (Q ++ [sgn (-ex)]).length, none⟩) E := Row.sub (Q ++ [sgn (-ex)]) E [] (by simpa using RC.out)
  have y3 : 0 + (Q ++ [sgn ex]).length = sp + 1 := by simp [hsp]
  have y4 : 0 + (Q ++ [sgn (-ex)]).length = sp + 1 := by simp [hsp]
  rw [y3] at x3
  rw [y4] at x4
  have x5 : w9.cell? ⟨ga, sp, none⟩ = some (.int .u8 (sgn ex)) := by
    rcases RA.out with h | ⟨bb, oo, hx, h⟩
    · simp at h
    · cases hx
      have := h (Q.length + 0) (by simp)
      rw [Nat.zero_add, getD_right, Nat.add_zero, ← hsp] at this
      exact this
  have x6 : w9.cell? ⟨gc, sp, none⟩ = some (.int .u8 (sgn (-ex))) := by
    rcases RC.out with h | ⟨bb, oo, hx, h⟩
    · simp at h
    · cases hx
      have := h (Q.length + 0) (by simp)
      rw [Nat.zero_add, getD_right, Nat.add_zero, ← hsp] at this
      exact this
  have X1 := hid x1
  have X2 := hid x2
  have X3 := hid x3
  have X4 := hid x4
  have HSP := hid hsp
  have fD : ((Lc : Int) != (La : Int)) = false := by simp; omega
  have esp : (La : Int) - (el : Int) - 1 = (sp : Int) := by omega
  clear hpre hprc hpl hQ hsp x1 x2 x3 x4 y3 y4
  go_upto_if 165 with fail
  go_cut [18] from 164 to 165 (fun x wx => x = .int .u8 (sgn ex) ∧ wx = w9.drewN q1)
  case first =>
    cases hs : decide (ex < 0)
    · have E1 := hid (show sgn ex = 43 by unfold sgn; rw [if_neg (of_decide_eq_false hs)])
      go_wp2
      go_meet
      case rel => exact ⟨by rw [E1.out], rfl⟩
    · have E1 := hid (show sgn ex = 45 by unfold sgn; rw [if_pos (of_decide_eq_true hs)])
      go_wp2
      go_meet
      case rel => exact ⟨by rw [E1.out], rfl⟩
  case rest =>
  obtain ⟨rfl, rfl⟩ := hcut
  go_upto_if 167 with fail
  go_cut [19] from 166 to 167 (fun x wx => x = .int .u8 (sgn (-ex)) ∧ wx = w9.drewN q1)
  case first =>
    cases hs : decide (0 < ex)
    · have E1 := hid (show sgn (-ex) = 43 by rw [sgn_neg, if_neg (of_decide_eq_false hs)])
      go_wp2
      go_meet
      case rel => exact ⟨by rw [E1.out], rfl⟩
    · have E1 := hid (show sgn (-ex) = 45 by rw [sgn_neg, if_pos (of_decide_eq_true hs)])
      go_wp2
      go_meet
      case rel => exact ⟨by rw [E1.out], rfl⟩
  case rest =>
  obtain ⟨rfl, rfl⟩ := hcut
  obtain ⟨S1, hS1⟩ : ∃ S, S = sgn ex := ⟨_, rfl⟩
  obtain ⟨S2, hS2⟩ : ∃ S, S = sgn (-ex) := ⟨_, rfl⟩
  rw [← hS1] at x5 ⊢
  rw [← hS2] at x6 ⊢
  clear hS1 hS2
  have v1 : (sp : Int) < (La : Int) := by omega
  have v2 : (sp : Int) < (Lc : Int) := by omega
  have v3 : (sp : Int) ≤ (capa : Int) := by omega
  have v4 : (sp : Int) ≤ (capc : Int) := by omega
  have v5 : (sp : Int) + 1 ≤ (La : Int) := by omega
  have v6 : (sp : Int) + 1 ≤ (Lc : Int) := by omega
  have v7 : (0 : Int) ≤ (sp : Int) + 1 := by omega
  have v8 : sp ≤ 1048576 := by omega
  have m1 : ¬ capa = sp + 1 := by omega
  have m2 : ¬ capc = sp + 1 := by omega
  have m3 : ¬ capc = 0 := by omega
  go_wp2_with fail
  go_big_quiet (first
    | (go_at_call_of 8 (⟨ga, 0, none⟩ : Addr); go_must (exact quiet_of_at (equalBytes_same _ _ _ _ _ _ Q _ (X1.out.drewN _) (X2.out.drewN _) HSP.out HSP.out (by rw [← HSP.out]; omega))))
    | (go_at_call 8; go_must (exact quiet_of_at (equalBytes_same _ _ _ _ _ _ E _ (X3.out.drewN _) (X4.out.drewN _) (by rw [← HEL.out]; omega) (by rw [← HEL.out]; omega) (by rw [← HEL.out]; omega)))))
  go_wp2
  go_ret
  exact ⟨rfl, (B9.out.trans (below_drewN' _ _ _)).trans (below_drewN' _ _ _)⟩
end Go.Proofs.Qxb6617989aDoor
