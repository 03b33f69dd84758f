import Derived.Test.Qxb6617989aDoorLaw1
import Derived.Test.Qxb6617989aDoorPlain
namespace Go.Proofs.Qxb6617989aDoor
open Go.RowKit

set_option maxRecDepth 100000 in
set_option maxHeartbeats 1000000 in
theorem law1_main (a0 : Option Addr) (c0 b off c1 : Nat) (D G : List Int) (n : Nat) (ex : Int) (alt : Bool) (w : World)
    (hD : Row w a0 D) (hG : ∀ i, i < G.length → w.cell? ⟨b, off + i, none⟩ = some (.int .u8 (G.getD i 0))) (hGb : ∀ i, i < G.length → 0 ≤ G.getD i 0 ∧ G.getD i 0 ≤ 255)
    (hDl : D.length ≤ 65536) (hGl : 1 ≤ G.length) (hGn : G.length ≤ n) (hn : n ≤ 65536) (he0 : -1073741824 ≤ ex) (he1 : ex ≤ 1073741824) (htab : Tab w) :
    Calls Tryd.prog 3 #[.slice a0 D.length c0, .slice (some ⟨b, off, none⟩) G.length c1, .int .i64 n, .int .i64 ex, .bool alt] w fun e w' => e = .returned (.bool true) ∧ Below w.heap.size w w' := by
  obtain ⟨i0, hi, hz0, hz1, hz2⟩ := info_parts Tryd.info5
  have g1 : (n : Int) ≤ 65536 := by omega
  have g2 : (G.length : Int) ≤ (n : Int) := by omega
  have HD := hid hD
  have HGC := hid hG
  have HGB := hid hGb
  have HT := hid htab
  clear hD hG hGb htab
  go_enter Tryd.func3, Tryd.ntmps3
  go_wp2_with (go_at_call 5; go_must (refine (zzBytes5_yes _ _ _ _ _ _ _ _ _ _ (by omega)).mono ?_); rintro e w ⟨rfl, rfl⟩)
  go_loop [11] (fun i => ∃ k : Nat, k ≤ G.length ∧ i = .int .i64 k ∧ Hid (∀ j, j < k → 48 ≤ G.getD j 0 ∧ G.getD j 0 ≤ 57)) (fun i => G.length - (intOf i).toNat)
  case atStart => exact ⟨0, Nat.zero_le _, rfl, fun j hj => by omega⟩
  case round =>
    obtain ⟨k, hk, rfl, hdig⟩ := hrel
    by_cases hlt : k < G.length
    · have hc := HGC.out k hlt
      have hcb := HGB.out k hlt
      obtain ⟨d, hd⟩ : ∃ d, d = G.getD k 0 := ⟨_, rfl⟩
      rw [← hd] at hc hcb
      have HE := hid hd
      clear hd
      by_cases h1 : d < 48
      · go_wp2
        go_ret
        exact ⟨rfl, Below.refl _ _⟩
      · by_cases h2 : 57 < d
        · go_wp2
          go_ret
          exact ⟨rfl, Below.refl _ _⟩
        · go_wp2
          go_round
          case rel =>
            refine ⟨k + 1, by omega, by go_num, fun j hj => ?_⟩
            by_cases hjk : j = k
            · subst hjk; rw [← HE.out]; omega
            · exact hdig j (by omega)
          case measure => simp [intOf]; omega
    · obtain rfl : k = G.length := by omega
      clear hlt
      have hpl := padded_len G n hGn
      obtain ⟨P, hP⟩ : ∃ P, P = padded G n := ⟨_, rfl⟩
      rw [← hP] at hpl
      have HP := hid hP
      clear hP
      have HPL := hid hpl
      clear hpl
      go_wp2_with (first
        | (go_at_call 6; go_must (refine (cloneBytes_any _ _ _ G _ (.inr ⟨b, off, rfl, HGC.out⟩) rfl (by omega)).mono ?_); rintro e w2 ⟨ah, rfl, hah, hh, hb1⟩)
        | (at_make; go_must (refine wpList_make_full _ rfl _ _ 22 rfl w2.heap.size 5 i0 (.int .u8 0) 1 Tryd.underlying22 hi hz0 hz1 .i64 .i64 _ _ n rfl rfl rfl rfl (by rw [hz2]; omega) (by unfold maxLen; omega) (Nat.le_refl _) ?_)))
      intro w3 hown hgrow
      have hb2 : Below w2.heap.size w2 w3 := (Below.refl _ _).grown hgrow (Nat.le_refl _) (fun k hk => by cases hk)
      have hown3 : w3.ownsRow w2.heap.size 5 1 (.slice (some ⟨w2.heap.size, 0, none⟩) n n) n ((fillTo P 0).map (Value.int .u8)) := by
        rw [fillTo_zero, HPL.out]
        simpa [toList_madeCells_one] using hown
      have HH := hid hh
      have HB1 := hid hb1
      clear hown hgrow hh hb1 hah
      have HB2 := hid hb2
      clear hb2
      go_wp2_with fail
      go_loopw [14] (fun i wr => ∃ k : Nat, k ≤ n ∧ i = .int .i64 k ∧ wr.ownsRow w2.heap.size 5 1 (.slice (some ⟨w2.heap.size, 0, none⟩) n n) n ((fillTo P k).map (Value.int .u8)) ∧ Below w2.heap.size w2 wr) (fun i _ => n - (intOf i).toNat)
      case atStart => exact ⟨0, Nat.zero_le _, rfl, hown3, HB2.out⟩
      case round =>
        obtain ⟨k, hk, rfl, hown, hbr⟩ := hrel
        clear hown3
        by_cases hlt : k < n
        · have hfl := fillTo_len P k (by rw [HPL.out]; omega)
          have hca : wr.cell? ⟨w2.heap.size, k, none⟩ = some (.int .u8 ((fillTo P k).getD k 0)) := by
            rw [hown.cellAt k (by omega)]
            simp [List.getD, show k < (fillTo P k).length by rw [hfl, HPL.out]; exact hlt]
          have hfa := hown.frozenAt k
          have hset := fillTo_set P k (by rw [HPL.out]; omega)
          have hcd : k < G.length → wr.cell? ⟨b, off + k, none⟩ = some (.int .u8 (G.getD k 0)) := fun h => cell_later hbr (cell_later HB1.out (HGC.out k h))
          obtain ⟨old, hold⟩ : ∃ old, old = (fillTo P k).getD k 0 := ⟨_, rfl⟩
          rw [← hold] at hca
          obtain ⟨d, hd⟩ : ∃ d, d = P.getD k 0 := ⟨_, rfl⟩
          have hst := (hown.stored k (.int .u8 d)).1
          have hbs : Below w2.heap.size w2 (wr.setCell ⟨w2.heap.size, k, none⟩ (.int .u8 d)) := hbr.setCell (Nat.le_refl _) _
          rw [← List.map_set, hd, hset] at hst
          rw [← hd] at hst
          have HST := hid hst
          have HBS := hid hbs
          have HE := hid hd
          clear hst hbs hfl hset hold hown hbr
          by_cases hg : k < G.length
          · have hcd' := hcd hg
            have e0 : G.getD k 0 = d := by rw [HE.out, HP.out, padded_get_held _ _ _ hg]
            rw [e0] at hcd'
            clear hcd e0 hd
            go_wp2
            go_roundw
            case rel => exact ⟨k + 1, by omega, by go_num, HST.out, HBS.out⟩
            case measure => simp [intOf]; omega
          · have e0 : d = 48 := by rw [HE.out, HP.out, padded_get_zero _ _ _ hg hlt]
            rw [e0] at HST HBS
            clear hcd hd HE e0
            go_wp2
            go_roundw
            case rel => exact ⟨k + 1, by omega, by go_num, HST.out, HBS.out⟩
            case measure => simp [intOf]; omega
        · obtain rfl : n = k := by omega
          have hfa : fillTo P n = P := by have := fillTo_all P; rw [HPL.out] at this; exact this
          rw [hfa] at hown
          have hrP : Row wr (some ⟨w2.heap.size, 0, none⟩) P := .inr ⟨_, 0, rfl, fun i hi => by
            rw [Nat.zero_add, hown.cellAt i (by rw [HPL.out] at hi; omega)]
            simp [List.getD, hi]⟩
          have hbw : Below w.heap.size w wr := HB1.out.trans (hbr.mono HB1.out.size)
          have hrG : Row wr ah G := HH.out.later hbr
          have hrD : Row wr a0 D := HD.out.later hbw
          have HRP := hid hrP
          have HBW := hid hbw
          have HRG := hid hrG
          have HRD := hid hrD
          clear hfa hrP hbw hrG hrD hown hbr hlt hk HB2 HB1 HH
          go_wp2_with (go_at_call 6; go_must (refine (cloneBytes_any _ _ _ P _ HRP.out HPL.out.symm (by rw [HPL.out]; omega)).mono ?_); rintro e w4 ⟨ap, rfl, hap, hp4, hb4⟩; refine Hid.out ?_)
          refine hid ?_
          have HP4 := hid hp4
          have HB4 := hid hb4
          clear hp4 hb4 hap
          go_wp2_with (go_at_call 6; go_must (refine (cloneBytes_any _ _ _ D _ (HRD.out.later HB4.out) rfl (by omega)).mono ?_); rintro e w5 ⟨ad1, rfl, had1, hp5, hb5⟩; refine Hid.out ?_)
          refine hid ?_
          have HP5 := hid hp5
          have HB5 := hid hb5
          have HN5 := hid had1
          clear hp5 hb5 had1
          go_wp2_with (go_at_call 6; go_must (refine (cloneBytes_any _ _ _ D _ ((HRD.out.later HB4.out).later HB5.out) rfl (by omega)).mono ?_); rintro e w6 ⟨ad2, rfl, had2, hp6, hb6⟩; refine Hid.out ?_)
          refine hid ?_
          have HP6 := hid hp6
          have HB6 := hid hb6
          have HN6 := hid had2
          clear hp6 hb6 had2
          go_wp2_with (go_at_call 7; go_must (refine (zzG _ _ G n ex _ _ D alt _ rfl hGl (((HRG.out.later HB4.out).later HB5.out).later HB6.out) rfl HN5.out (HP5.out.later HB6.out) hDl hn hGn he0 he1 ?_).mono ?_))
          · exact Lib.tabBelow_of_tabIs HT.out _ (((HBW.out.trans (HB4.out.mono HBW.out.size)).trans (HB5.out.mono (Nat.le_trans HBW.out.size HB4.out.size))).trans (HB6.out.mono (Nat.le_trans (Nat.le_trans HBW.out.size HB4.out.size) HB5.out.size)))
          rintro e w7 ⟨g1, cap1, L1, rfl, hL1, hc1, hm1, hr7, hb7⟩
          have HL1 := hid hL1
          have HR7 := hid hr7
          have HB7 := hid hb7
          clear hL1 hr7 hb7
          have hPn : P.length ≤ n := by rw [HPL.out]; omega
          have hP1 : 1 ≤ P.length := by rw [HPL.out]; omega
          go_wp2_with (go_at_call 7; go_must (refine (zzG _ _ P n ex _ _ D alt _ HPL.out.symm hP1 (((HP4.out.later HB5.out).later HB6.out).later HB7.out) rfl HN6.out (HP6.out.later HB7.out) hDl hn hPn he0 he1 ?_).mono ?_))
          · exact Lib.tabBelow_of_tabIs HT.out _ ((((HBW.out.trans (HB4.out.mono HBW.out.size)).trans (HB5.out.mono (Nat.le_trans HBW.out.size HB4.out.size))).trans (HB6.out.mono (Nat.le_trans (Nat.le_trans HBW.out.size HB4.out.size) HB5.out.size))).trans (HB7.out.mono (Nat.le_trans (Nat.le_trans (Nat.le_trans HBW.out.size HB4.out.size) HB5.out.size) HB6.out.size)))
          rintro e w8 ⟨g2, cap2, L2, rfl, hL2, hc2, hm2, hr8, hb8⟩
          have em : txt D P n ex alt = txt D G n ex alt := by rw [HP.out]; unfold txt; rw [mant_padded G n alt hGl hGn]
          rw [em] at hL2 hr8
          have hbT : Below w.heap.size w w8 := ((((HBW.out.trans (HB4.out.mono HBW.out.size)).trans (HB5.out.mono (Nat.le_trans HBW.out.size HB4.out.size))).trans (HB6.out.mono (Nat.le_trans (Nat.le_trans HBW.out.size HB4.out.size) HB5.out.size))).trans (HB7.out.mono (Nat.le_trans (Nat.le_trans (Nat.le_trans HBW.out.size HB4.out.size) HB5.out.size) HB6.out.size))).trans (hb8.mono (Nat.le_trans (Nat.le_trans (Nat.le_trans (Nat.le_trans HBW.out.size HB4.out.size) HB5.out.size) HB6.out.size) HB7.out.size))
          have HBT := hid hbT
          have HX1 := hid (HR7.out.later hb8)
          have HX2 := hid hr8
          have HXP := hid (((((HRP.out.later HB4.out).later HB5.out).later HB6.out).later HB7.out).later hb8)
          have HXD := hid (((((HRD.out.later HB4.out).later HB5.out).later HB6.out).later HB7.out).later hb8)
          have HL2 := hid hL2
          clear hbT hL2 hr8 hb8 em HB7 HR7 HP6 HB6 HN6 HN5 HB5 HP5 HB4 HP4 HRD HRG HBW HRP
          obtain ⟨M, hM⟩ : ∃ M, M = mant G n alt := ⟨_, rfl⟩
          obtain ⟨E, hE⟩ : ∃ E, E = ED ex.natAbs := ⟨_, rfl⟩
          have htx : txt D G n ex alt = D ++ (M ++ (101 :: (sgn ex :: E))) := by rw [hM, hE]; rfl
          have hMl := mant_len G n alt hGl hGn
          have hdl : (dot n alt).length ≤ 1 := by unfold dot; split <;> simp
          rw [← hM] at hMl
          have hEl := ED_len ex.natAbs (by omega)
          rw [← hE] at hEl
          rw [htx] at HL1 HL2 HX1 HX2
          obtain ⟨K, hK⟩ : ∃ K, K = M.length := ⟨_, rfl⟩
          obtain ⟨el, hel⟩ : ∃ el, el = E.length := ⟨_, rfl⟩
          have b1 : L1 ≤ D.length + K + 2 + el := by rw [HL1.out, hK, hel]; simp; omega
          have b2 : D.length + K + 2 + el ≤ L1 := by rw [HL1.out, hK, hel]; simp; omega
          have b3 : n ≤ K := by omega
          have b4 : K ≤ n + 1 := by omega
          have b5 : 2 ≤ el := by omega
          have b6 : el ≤ 10 := by omega
          have hXl : (D ++ (M ++ (101 :: (sgn ex :: E)))).length ≤ 1048576 := by rw [← HL1.out]; omega
          have HXL := hid hXl
          have HM := hid hM
          have HE := hid hE
          have HML := hid hMl
          have HK := hid hK
          have HEL := hid hel
          clear htx hMl hdl hEl hXl hM hE hK hel
          have rD : Row w8 (some ⟨g1, 0, none⟩) D := Row.sub [] D _ HX1.out
          have HRD := hid rD
          clear rD
          have nc1 : ¬ cap1 = D.length := by omega
          have nc0 : ¬ cap1 = 0 := by omega
          have fB1 : decide (L1 < D.length) = false := decide_eq_false (by omega)
          go_wp2_with (go_at_call 8; go_must (refine (equalBytes_same _ _ _ _ _ _ _ _ HX1.out HX2.out HL1.out HL2.out HXL.out).mono ?_); rintro e wq ⟨rfl, kq, rfl⟩; refine Hid.out ?_)
          refine hid ?_
          go_wp2_with (go_at_call 8; go_must (refine (equalBytes_same _ _ _ _ _ _ _ _ (HRD.out.drewN kq) (HXD.out.drewN kq) rfl rfl (by omega)).mono ?_); rintro e wz ⟨rfl, kr, rfl⟩; refine Hid.out ?_)
          refine hid ?_
          have rR : Row w8 (some ⟨g1, 0 + D.length, none⟩) (M ++ (101 :: (sgn ex :: E))) := Row.sub D _ [] (by rw [List.append_nil]; exact HX1.out)
          rw [Nat.zero_add] at rR
          have hMne : ∀ j, j < K → (M ++ (101 :: (sgn ex :: E))).getD j 0 ≠ 101 := by
            intro j hj
            rw [getD_left _ _ _ (by rw [← HK.out]; exact hj), HM.out]
            exact mant_ne G n alt (hdig.out) hGl j (by rw [← HM.out, ← HK.out]; exact hj)
          have hMK : (M ++ (101 :: (sgn ex :: E))).getD K 0 = 101 := by
            rw [HK.out]; exact getD_right M (101 :: (sgn ex :: E)) 0
          have HMNE := hid hMne
          have HMK := hid hMK
          have HR := hid rR
          clear rR hMne hMK HX1 HX2 HXD HRD HL2 HT HD HGC
          go_wp2_with fail
          go_loopw [21, 22] (fun kk i wr => ∃ j nq : Nat, j ≤ K ∧ i = .int .i64 j ∧ kk = .int .i64 (-1) ∧ wr = w8.drewN nq) (fun _ i _ => K + 1 - (intOf i).toNat)
          case atStart => exact ⟨0, kq + kr, Nat.zero_le _, rfl, rfl, rfl⟩
          case round =>
            obtain ⟨j, nq, hj, rfl, rfl, rfl⟩ := hrel
            have hRl : j < (M ++ (101 :: (sgn ex :: E))).length := by rw [List.length_append, ← HK.out]; simp; omega
            have hcj : w8.cell? ⟨g1, D.length + j, none⟩ = some (.int .u8 ((M ++ (101 :: (sgn ex :: E))).getD j 0)) := by
              rcases HR.out with h | ⟨bb, oo, hx, h⟩
              · simp at h
              · cases hx; exact h j hRl
            have hjl : j < L1 - D.length := by omega
            clear hRl
            by_cases hlt : j < K
            · have hne := HMNE.out j hlt
              obtain ⟨c, hc⟩ : ∃ c, c = (M ++ (101 :: (sgn ex :: E))).getD j 0 := ⟨_, rfl⟩
              rw [← hc] at hcj hne
              clear hc
              have hne' : (c == 101) = false := by simp [hne]
              clear hne
              go_wp2
              go_roundw
              case rel => exact ⟨j + 1, nq, by omega, by go_num, rfl, rfl⟩
              case measure => simp [intOf]; omega
            · obtain rfl : K = j := by omega
              rw [HMK.out] at hcj
              obtain ⟨dl, hdl⟩ : ∃ dl, dl = (dot n alt).length := ⟨_, rfl⟩
              have k1 : K ≤ n + dl := by rw [HK.out, HML.out, hdl]; omega
              have k2 : n + dl ≤ K := by rw [HK.out, HML.out, hdl]; omega
              have HDL := hid hdl
              clear hdl
              have fB2 : ((K : Int) != (n : Int) + (dl : Int)) = false := by simp; omega
              go_upto_region 45 with fail
              go_cut [161] from 157 to 161 (fun c wx => c = .bool (dotB n alt) ∧ wx = w8.drewN nq)
              case first =>
                cases h1 : decide ((1 : Int) < (n : Int))
                · have E1 := hid (show dotB n alt = alt by unfold dotB; have h2 := of_decide_eq_false h1; rw [decide_eq_false (by omega)]; rfl)
                  go_wp2
                  go_meet
                  case rel => exact ⟨by rw [E1.out], rfl⟩
                · have E1 := hid (show dotB n alt = true by unfold dotB; have h2 := of_decide_eq_true h1; rw [decide_eq_true (by omega)]; rfl)
                  go_wp2
                  go_meet
                  case rel => exact ⟨by rw [E1.out], rfl⟩
              case rest =>
              obtain ⟨rfl, rfl⟩ := hcut
              go_upto_if 161 with fail
              go_cut [23] from 157 to 161 (fun d wx => d = .int .i64 dl ∧ wx = w8.drewN nq)
              case first =>
                cases hB : dotB n alt
                · have e0 : dl = 0 := by rw [HDL.out]; simp [dot, hB]
                  clear hB
                  go_wp2
                  go_meet
                  case rel => exact ⟨by rw [e0]; rfl, rfl⟩
                · have e0 : dl = 1 := by rw [HDL.out]; simp [dot, hB]
                  clear hB
                  go_wp2
                  go_meet
                  case rel => exact ⟨by rw [e0]; rfl, rfl⟩
              case rest =>
              obtain ⟨rfl, rfl⟩ := hcut
              have cM : ∀ i, i < K → w8.cell? ⟨g1, D.length + i, none⟩ = some (.int .u8 (M.getD i 0)) := by
                intro i hi
                rcases HR.out with h | ⟨bb, oo, hx, h⟩
                · simp at h
                · cases hx
                  rw [h i (by rw [List.length_append, ← HK.out]; simp; omega), getD_left _ _ _ (by rw [← HK.out]; exact hi)]
              have cP : ∀ i, i < n → w8.cell? ⟨w2.heap.size, 0 + i, none⟩ = some (.int .u8 (P.getD i 0)) := by
                intro i hi
                rcases HXP.out with h | ⟨bb, oo, hx, h⟩
                · rw [h] at hP1; simp at hP1
                · cases hx
                  exact h i (by rw [HPL.out]; exact hi)
              have e0 : M.getD 0 0 = P.getD 0 0 := by rw [HM.out, HP.out]; exact mant_get0 G n alt hGl
              have m0 := cM 0 (by omega)
              have p0 := cP 0 (by omega)
              rw [e0] at m0
              rw [Nat.add_zero] at m0 p0
              obtain ⟨v0, hv0⟩ : ∃ v0, v0 = P.getD 0 0 := ⟨_, rfl⟩
              rw [← hv0] at m0 p0
              have HCM := hid cM
              have HCP := hid cP
              have i1 : (0 : Int) < (K : Int) := by omega
              have i2 : (0 : Int) < (n : Int) := by omega
              clear e0 hv0 cM cP hcj
              go_wp2_with fail
              go_quiet (fail)
              clear m0 p0
              go_upto_region 52 with fail
              go_cut [185] from 178 to 185 (fun c wx => c = .bool false ∧ ∃ q, wx = w8.drewN q)
              case first =>
                by_cases h1 : dl = 1
                · have m1 := HCM.out 1 (by omega)
                  have e1 : M.getD 1 0 = 46 := by rw [HM.out]; exact mant_dot G n alt (by rw [← HDL.out]; exact h1)
                  rw [e1] at m1
                  have j1 : (1 : Int) < (K : Int) := by omega
                  have hB : ((dl : Int) == 1) = true := by simp [h1]
                  clear e1 h1
                  go_wp2
                  go_meet
                  case rel => exact ⟨rfl, _, rfl⟩
                · have hB : ((dl : Int) == 1) = false := by simp; omega
                  clear h1
                  go_wp2
                  go_meet
                  case rel => exact ⟨rfl, _, rfl⟩
              case rest =>
              obtain ⟨rfl, q1, rfl⟩ := hcut
              go_wp2_with fail
              go_loopw [25] (fun i wr => ∃ j q : Nat, 1 ≤ j ∧ j ≤ n ∧ i = .int .i64 j ∧ wr = w8.drewN q) (fun i _ => n - (intOf i).toNat)
              case atStart => exact ⟨1, q1, Nat.le_refl _, by omega, rfl, rfl⟩
              case round =>
                obtain ⟨j, q, hj1, hjn, rfl, rfl⟩ := hrel
                by_cases hlt : j < n
                · have mj := HCM.out (j + dl) (by omega)
                  have pj := HCP.out j hlt
                  have ej : M.getD (j + dl) 0 = P.getD j 0 := by rw [HM.out, HP.out, HDL.out]; exact mant_get G n alt j hj1
                  rw [ej] at mj
                  rw [Nat.zero_add] at pj
                  obtain ⟨vj, hvj⟩ : ∃ vj, vj = P.getD j 0 := ⟨_, rfl⟩
                  rw [← hvj] at mj pj
                  have i3 : (j : Int) < (n : Int) := by omega
                  have i4 : (j : Int) + (dl : Int) < (K : Int) := by omega
                  clear hvj ej
                  go_wp2_with fail
                  go_quiet (fail)
                  go_wp2
                  go_roundw
                  case rel => exact ⟨j + 1, _, by omega, by omega, by go_num, rfl⟩
                  case measure => simp [intOf]; omega
                · have cT : ∀ i, i < el + 1 → w8.cell? ⟨g1, D.length + (K + 1) + i, none⟩ = some (.int .u8 ((sgn ex :: E).getD i 0)) := by
                    intro i hi
                    rcases HR.out with h | ⟨bb, oo, hx, h⟩
                    · simp at h
                    · cases hx
                      have e1 : M ++ (101 :: (sgn ex :: E)) = (M ++ [101]) ++ (sgn ex :: E) := by simp
                      have e2 : K + 1 + i = (M ++ [101]).length + i := by rw [List.length_append, ← HK.out]; simp
                      rw [Nat.add_assoc, h (K + 1 + i) (by rw [e1, List.length_append, e2, List.length_cons, ← HEL.out]; omega), e1, e2, getD_right]
                  have t0 : w8.cell? ⟨g1, D.length + (K + 1), none⟩ = some (.int .u8 (sgn ex)) := cT 0 (by omega)
                  have HCT := hid cT
                  have nc2 : ¬ cap1 - D.length = K + 1 := by omega
                  have nc3 : ¬ cap1 - D.length - (K + 1) = 1 := by omega
                  clear cT
                  go_upto_region 62 with fail
                  go_cut [216] from 209 to 216 (fun c wx => c = .bool false ∧ wx = w8.drewN q)
                  case first =>
                    cases hs : decide (ex < 0)
                    · go_wp2
                      go_meet
                      case rel => exact ⟨rfl, rfl⟩
                    · have es : sgn ex = 45 := by unfold sgn; rw [if_pos (of_decide_eq_true hs)]
                      rw [es] at t0
                      clear es
                      have i5 : (0 : Int) < ((L1 - D.length - (K + 1) : Nat) : Int) := by omega
                      go_wp2
                      go_meet
                      case rel => exact ⟨rfl, rfl⟩
                  case rest =>
                  obtain ⟨rfl, rfl⟩ := hcut
                  go_upto_region 64 with fail
                  go_cut [224] from 217 to 224 (fun c wx => c = .bool false ∧ wx = w8.drewN q)
                  case first =>
                    cases hs : decide (0 ≤ ex)
                    · go_wp2
                      go_meet
                      case rel => exact ⟨rfl, rfl⟩
                    · have es : sgn ex = 43 := by unfold sgn; have := of_decide_eq_true hs; rw [if_neg (by omega)]
                      rw [es] at t0
                      clear es
                      have i5 : (0 : Int) < ((L1 - D.length - (K + 1) : Nat) : Int) := by omega
                      go_wp2
                      go_meet
                      case rel => exact ⟨rfl, rfl⟩
                  case rest =>
                  obtain ⟨rfl, rfl⟩ := hcut
                  clear t0
                  have cE : ∀ i, i < el → w8.cell? ⟨g1, D.length + (K + 1) + 1 + i, none⟩ = some (.int .u8 (E.getD i 0)) := by
                    intro i hi
                    have := HCT.out (i + 1) (by omega)
                    rw [show D.length + (K + 1) + 1 + i = D.length + (K + 1) + (i + 1) by omega, this]
                    simp [List.getD]
                  have HCE := hid cE
                  clear cE
                  go_upto_region 69 with fail
                  have hm : L1 - D.length - (K + 1) - 1 = el := by omega
                  have hEd : ∀ i, i < el → 48 ≤ E.getD i 0 ∧ E.getD i 0 ≤ 57 := by
                    intro i hi
                    have := ED_digit ex.natAbs (E.getD i 0) (by rw [← HE.out]; exact getD_mem (by rw [← HEL.out]; exact hi))
                    exact this
                  have HED := hid hEd
                  have HMM := hid hm
                  clear hEd
                  rw [hm]
                  clear hm
                  go_cut [238] from 230 to 238 (fun c wx => c = .bool false ∧ wx = w8.drewN q)
                  case first =>
                    cases hs : decide ((2 : Int) < (el : Int))
                    · go_wp2
                      go_meet
                      case rel => exact ⟨rfl, rfl⟩
                    · have e0 := HCE.out 0 (by omega)
                      have hne : E.getD 0 0 ≠ 48 := by
                        rw [HE.out]; exact ED_first _ (by rw [← HE.out, ← HEL.out]; have := of_decide_eq_true hs; omega)
                      rw [Nat.add_zero] at e0
                      obtain ⟨c, hc⟩ : ∃ c, c = E.getD 0 0 := ⟨_, rfl⟩
                      rw [← hc] at e0 hne
                      have hB : (c == 48) = false := by simp [hne]
                      have i5 : (0 : Int) < (el : Int) := by omega
                      clear hc hne
                      go_wp2
                      go_meet
                      case rel => exact ⟨rfl, rfl⟩
                  case rest =>
                  obtain ⟨rfl, rfl⟩ := hcut
                  go_wp2_with fail
                  go_loopw [28, 29] (fun v i wr => ∃ t : Nat, t ≤ el ∧ i = .int .i64 t ∧ v = .int .i64 (val (E.take t)) ∧ wr = w8.drewN q) (fun _ i _ => el - (intOf i).toNat)
                  case atStart => exact ⟨0, Nat.zero_le _, rfl, rfl, rfl⟩
                  case round =>
                    obtain ⟨t, ht, rfl, rfl, rfl⟩ := hrel
                    have hvb := val_bound (E.take t) (fun c hc => ED_digit ex.natAbs c (by rw [← HE.out]; exact List.mem_of_mem_take hc)) 10 (by rw [List.length_take]; omega)
                    have hv0 : 0 ≤ val (E.take t) := hvb.1
                    have hv1 : val (E.take t) ≤ 10000000000 := by have := hvb.2; omega
                    clear hvb
                    by_cases htl : t < el
                    · have ct := HCE.out t htl
                      have cd := HED.out t htl
                      have hsucc := val_take_succ E t (by rw [← HEL.out]; exact htl)
                      obtain ⟨c, hc⟩ : ∃ c, c = E.getD t 0 := ⟨_, rfl⟩
                      rw [← hc] at ct cd hsucc
                      obtain ⟨V, hV⟩ : ∃ V, V = val (E.take t) := ⟨_, rfl⟩
                      rw [← hV] at hv0 hv1 hsucc ⊢
                      have HS := hid hsucc
                      have i6 : (t : Int) < (el : Int) := by omega
                      clear hc hsucc hV
                      go_wp2
                      go_roundw
                      case rel => exact ⟨t + 1, by omega, by go_num, by rw [HS.out], by trivial⟩
                      case measure => simp [intOf]; omega
                    · have hfin : val (E.take t) = (ex.natAbs : Int) := by
                        rw [List.take_of_length_le (by rw [← HEL.out]; omega), HE.out, ED_val]
                      rw [hfin]
                      clear hv0 hv1
                      have HF := hid hfin
                      clear hfin
                      by_cases hneg : ex < 0
                      · have hB : (((ex.natAbs : Nat) : Int) == -ex) = true := by simp; omega
                        go_wp2
                        go_ret
                        exact ⟨rfl, HBT.out.trans (below_drewN' _ _ _)⟩
                      · have hB : (((ex.natAbs : Nat) : Int) == ex) = true := by simp; omega
                        go_wp2
                        go_ret
                        exact ⟨rfl, HBT.out.trans (below_drewN' _ _ _)⟩
end Go.Proofs.Qxb6617989aDoor
