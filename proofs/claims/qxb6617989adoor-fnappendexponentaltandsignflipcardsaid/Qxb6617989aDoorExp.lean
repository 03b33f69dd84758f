import Derived.Test.Qxb6617989aDoorPush
import Derived.Deep.DeepCutAuto
namespace Go.Proofs.Qxb6617989aDoor
open Go.RowKit

/-- The name of the library's table of powers of ten, off the given row. -/
def tabName : String := Rows.fnAppendExponentAltAndSignFlipRow.named.headD ""
/-- The table reads as its initialiser lays it. -/
def Tab (w : World) : Prop := Lib.TabIs Tryd.prog w tabName .u64 Lib.pow10Tab

/-- strconv.AppendInt at base 10, as the shelf has it. -/
def AppendIntSaid : Prop := ∀ (B n : Nat) (i : Int) (sv : Value) (xs : List Value) (w : World), -9223372036854775808 ≤ i → i ≤ 9223372036854775807 → w.ownsRow B 5 1 sv n xs → B ≤ w.heap.size → n + 21 ≤ 140737488355328 →
    Lib.TabBelow Tryd.prog B w tabName .u64 Lib.pow10Tab →
    Calls Tryd.prog 13 #[sv, .int .i64 i, .int .i64 10] w fun e w' => ∃ v', e = .returned v' ∧ w'.ownsRow B 5 1 v' (n + (Lib.itoa i).length) (xs ++ Lib.byteCells (Lib.itoa i)) ∧ Below B w w'

/-- The decimal numeral, its bytes as numbers. -/
def dec (u : Nat) : List Int := (Lib.decDigits u).map fun b => (b.toNat : Int)

theorem appendInt_st (hAI : AppendIntSaid) (w0 wx : World) (v : Value) (txt : List Int) (h : St w0 v wx txt) (i : Int) (hi0 : 0 ≤ i) (hi : i ≤ 1073741824) (hlim : txt.length ≤ 1048576) (htab : Tab w0) :
    Calls Tryd.prog 13 #[v, .int .i64 i, .int .i64 10] wx fun e w' => ∃ v', e = .returned v' ∧ St w0 v' w' (txt ++ dec i.toNat) := by
  obtain ⟨u, rfl⟩ := Int.eq_ofNat_of_zero_le hi0
  obtain ⟨hown, hb⟩ := h
  refine (hAI w0.heap.size txt.length (u : Int) v _ wx (by omega) (by omega) hown hb.size (by omega) ((Lib.tabBelow_of_tabIs htab).on hb)).mono ?_
  rintro e w' ⟨v', rfl, hown', hb'⟩
  refine ⟨v', rfl, ?_, hb.trans hb'⟩
  rw [Lib.itoa_nonneg] at hown'
  have e1 : (txt ++ dec (u : Int).toNat).length = txt.length + (Lib.decDigits u).length := by simp [dec]
  have e2 : (txt ++ dec (u : Int).toNat).map (Value.int .u8) = txt.map (Value.int .u8) ++ Lib.byteCells (Lib.decDigits u) := by simp [dec, Lib.byteCells]
  rw [e1, e2]
  exact hown'

def dotB (n : Nat) (alt : Bool) : Bool := decide (1 < n) || alt
def dot (n : Nat) (alt : Bool) : List Int := if dotB n alt = true then [46] else []
def sgn (ex : Int) : Int := if ex < 0 then 45 else 43
def pad (u : Nat) : List Int := if u < 10 then [48] else []
def zeros (k : Nat) : List Int := List.replicate k 48

/-- What 'appendExponent' writes. -/
def expText (dst : List Int) (d0 : Int) (ds : List Int) (n : Nat) (ex : Int) (alt : Bool) : List Int :=
  ((((((((dst ++ [d0]) ++ dot n alt) ++ ds) ++ zeros (n - (ds.length + 1))) ++ [101]) ++ [sgn ex]) ++ pad ex.natAbs) ++ dec ex.natAbs)

set_option maxHeartbeats 400000 in
theorem appendExponent_st (hAI : AppendIntSaid) (b off : Nat) (d0 : Int) (ds : List Int) (n : Nat) (ex : Int) (da : Option Addr) (dn : Nat) (dst : List Int) (alt : Bool) (w : World)
    (hd0 : w.cell? ⟨b, off, none⟩ = some (.int .u8 d0)) (hds : ∀ i, i < ds.length → w.cell? ⟨b, off + 1 + i, none⟩ = some (.int .u8 (ds.getD i 0)))
    (hdn : dn = dst.length) (hnone : da = none → dn = 0) (hdst : Row w da dst) (hl : dst.length ≤ 65536) (hn : n ≤ 65536) (hnl : ds.length + 1 ≤ n) (he0 : -1073741824 ≤ ex) (he1 : ex ≤ 1073741824) (htab : Tab w) :
    Calls Tryd.prog 11 #[.agg #[.slice (some ⟨b, off, none⟩) (ds.length + 1) (ds.length + 1), .int .i64 n, .int .i64 ex], .slice da dn dn, .bool alt] w
      fun e w' => ∃ v', e = .returned v' ∧ ∃ w0, Below w.heap.size w w0 ∧ St w0 v' w' (expText dst d0 ds n ex alt) := by
  subst hdn
  have hbl := World.block_lt_of_cell? _ _ hd0
  obtain ⟨W0, hW0⟩ : ∃ W0, W0 = w.alloc (.cells #[.slice (some ⟨b, off, none⟩) (ds.length + 1) (ds.length + 1), .int .i64 n, .int .i64 ex] 30) := ⟨_, rfl⟩
  have hbW : Below w.heap.size w W0 := by rw [hW0]; exact (Below.refl _ _).alloc (Nat.le_refl _) _
  have c0 : W0.cell? ⟨w.heap.size, 0, none⟩ = some (.slice (some ⟨b, off, none⟩) (ds.length + 1) (ds.length + 1)) := by rw [hW0]; simp
  have c1 : W0.cell? ⟨w.heap.size, 1, none⟩ = some (.int .i64 n) := by rw [hW0]; simp
  have c2 : W0.cell? ⟨w.heap.size, 2, none⟩ = some (.int .i64 ex) := by rw [hW0]; simp
  have hdsW : ∀ i, i < ds.length → W0.cell? ⟨b, off + 1 + i, none⟩ = some (.int .u8 (ds.getD i 0)) := fun i hi => cell_later hbW (hds i hi)
  have HW0 := hid hW0
  have HDS := hid hdsW
  clear hW0 hdsW hds
  go_enter Tryd.func11, Tryd.ntmps11
  go_wp2_with (at_builtin; refine wpList_first rfl _ _ rfl _ _ _ dst _ _ _ rfl rfl (by simp) rfl hnone (hdst.later ((Below.refl _ _).alloc (Nat.le_refl _) _)) (by omega) ?_)
  intro v1 w1 hst
  rw [← HW0.out] at hst
  have q1 := hst.cell c1
  go_upto_region 2 with fail
  go_cut [20] (fun c wx => c = .bool (dotB n alt) ∧ wx = w1)
  case first =>
    by_cases h1 : (1 : Int) < (n : Int)
    · go_wp2
      go_meet
      case rel => exact ⟨by simp [dotB]; omega, rfl⟩
    · go_wp2
      go_meet
      case rel => exact ⟨by simp [dotB]; omega, rfl⟩
  case rest =>
  obtain ⟨rfl, rfl⟩ := hcut
  go_upto_if 20 with fail
  go_cut [1] (fun v wx => St W0 v wx ((dst ++ [d0]) ++ dot n alt))
  case first =>
    cases hB : dotB n alt
    · have E0 := hid (show dot n alt = [] by simp [dot, hB])
      clear hB
      go_wp2
      go_meet
      case rel => rw [E0.out, List.append_nil]; exact hst
    · have E0 := hid (show dot n alt = [46] by simp [dot, hB])
      clear hB
      go_wp2_with (at_builtin; go_must (refine wpList_push rfl (.tmp 21) (.tmp 22) rfl W0 _ v1 _ _ _ rfl rfl hst (by simp; omega) ?_))
      intro v2 w2 hst2
      go_wp2
      go_meet
      case rel => rw [E0.out]; simpa using hst2
  case rest =>
  clear hst q1
  have hdot : (dot n alt).length ≤ 1 := by unfold dot; split <;> simp
  obtain ⟨T2, hT2⟩ : ∃ T2, T2 = (dst ++ [d0]) ++ dot n alt := ⟨_, rfl⟩
  have hT2l : T2.length ≤ 65536 + 2 := by rw [hT2]; simp; omega
  rw [← hT2] at hcut
  have HT2 := hid hT2
  clear hT2 hdot
  have q0 := hcut.cell c0
  have q1 := hcut.cell c1
  go_upto_region 4 with fail
  go_cut [1] (fun v wx => St W0 v wx (T2 ++ ds))
  case first =>
    by_cases hd : ds = []
    · subst hd
      go_wp2_with (at_builtin; go_must (refine wpList_join rfl (.tmp 24) (.tmp 27) rfl W0 _ _ _ b off 0 0 [] rfl rfl rfl hcut (by simp; omega) (by simp) ?_))
      intro v2 w2 hst2
      go_wp2
      go_meet
      case rel => simpa using hst2
    · have hdp : 0 < ds.length := List.length_pos_iff.2 hd
      have hc2 : ∀ i, i < ds.length → wc.cell? ⟨b, off + 1 + i, none⟩ = some (.int .u8 (ds.getD i 0)) := fun i hi => hcut.cell (HDS.out i hi)
      have HC := hid hc2
      clear hc2
      go_wp2_with (at_builtin; go_must (refine wpList_join rfl (.tmp 24) (.tmp 27) rfl W0 _ _ _ b (off + 1) ds.length ds.length ds rfl rfl rfl hcut (by omega) HC.out ?_))
      intro v2 w2 hst2
      go_wp2
      go_meet
      case rel => exact hst2
  case rest =>
  clear q0 q1
  obtain ⟨T3, hT3⟩ : ∃ T3, T3 = T2 ++ ds := ⟨_, rfl⟩
  have hT3l : T3.length ≤ 65536 + 2 + ds.length := by rw [hT3]; simp; omega
  rw [← hT3] at hcut
  have HT3 := hid hT3
  clear hT3
  have q0 := hcut.cell c0
  have q1 := hcut.cell c1
  obtain ⟨k, hk⟩ : ∃ k : Nat, n = k + (ds.length + 1) := ⟨n - (ds.length + 1), by omega⟩
  have HK := hid hk
  have hk2 : (n : Int) - ((ds.length : Int) + 1) = (k : Int) := by omega
  clear hk
  go_wp2_with (go_at_call 12; go_fit (appendFill_zero W0.heap.size T3.length k _ _ _ hcut.1 hcut.size (by omega)); rintro e w2 ⟨v2, rfl, hown2, hb2⟩; refine Hid.out ?_)
  refine hid ?_
  have hst4 : St W0 v2 w2 (T3 ++ zeros k) := ⟨by simpa [zeros] using hown2, hcut.2.trans hb2⟩
  clear hown2 hb2 q0 q1 hk2 hcut
  obtain ⟨T4, hT4⟩ : ∃ T4, T4 = T3 ++ zeros k := ⟨_, rfl⟩
  have hT4l : T4.length ≤ 65536 + 2 + 65536 := by rw [hT4]; have := HK.out; simp [zeros]; omega
  rw [← hT4] at hst4
  have HT4 := hid hT4
  clear hT4
  go_wp2_with (at_builtin; go_must (refine wpList_push rfl (.tmp 37) (.tmp 38) rfl W0 _ v2 _ _ _ rfl rfl hst4 (by omega) ?_))
  intro v5 w5 hst5
  clear hst4
  have q2 := hst5.cell c2
  obtain ⟨T5, hT5⟩ : ∃ T5, T5 = T4 ++ [101] := ⟨_, rfl⟩
  have hT5l : T5.length ≤ 65536 + 2 + 65536 + 1 := by rw [hT5]; simp; omega
  rw [← hT5] at hst5
  have HT5 := hid hT5
  clear hT5
  go_upto_if 43 with fail
  go_cut [1, 7] (fun v x wx => x = .int .i64 ex.natAbs ∧ St W0 v wx (T5 ++ [sgn ex]))
  case first =>
    by_cases hneg : ex < 0
    · have hs : sgn ex = 45 := by simp [sgn, hneg]
      have HS := hid hs
      clear hs
      go_wp2_with (at_builtin; go_must (refine wpList_push rfl (.tmp 44) (.tmp 45) rfl W0 _ v5 _ _ _ rfl rfl hst5 (by omega) ?_))
      intro v6 w6 hst6
      go_wp2
      go_meet
      case rel => rw [HS.out]; exact ⟨by go_num, hst6⟩
    · have hs : sgn ex = 43 := by simp [sgn, hneg]
      have HS := hid hs
      clear hs
      go_wp2_with (at_builtin; go_must (refine wpList_push rfl (.tmp 49) (.tmp 50) rfl W0 _ v5 _ _ _ rfl rfl hst5 (by omega) ?_))
      intro v6 w6 hst6
      go_wp2
      go_meet
      case rel => rw [HS.out]; exact ⟨by go_num, hst6⟩
  case rest =>
  obtain ⟨rfl, hst6⟩ := hcut
  clear hst5 q2
  obtain ⟨T6, hT6⟩ : ∃ T6, T6 = T5 ++ [sgn ex] := ⟨_, rfl⟩
  have hT6l : T6.length ≤ 65536 + 2 + 65536 + 2 := by rw [hT6]; simp; omega
  rw [← hT6] at hst6
  have HT6 := hid hT6
  clear hT6
  obtain ⟨u, hu⟩ : ∃ u : Nat, u = ex.natAbs := ⟨_, rfl⟩
  have hu1 : u ≤ 1073741824 := by omega
  rw [← hu]
  have HU := hid hu
  clear hu
  go_upto_if 53 with fail
  go_cut [1] (fun v wx => St W0 v wx (T6 ++ pad u))
  case first =>
    by_cases hlt : (u : Int) < 10
    · have HP := hid (show pad u = [48] by unfold pad; rw [if_pos (by omega)])
      go_wp2_with (at_builtin; go_must (refine wpList_push rfl (.tmp 54) (.tmp 55) rfl W0 _ _ _ _ _ rfl rfl hst6 (by omega) ?_))
      intro v7 w7 hst7
      go_wp2
      go_meet
      case rel => rw [HP.out]; exact hst7
    · have HP := hid (show pad u = [] by unfold pad; rw [if_neg (by omega)])
      go_wp2
      go_meet
      case rel => rw [HP.out, List.append_nil]; exact hst6
  case rest =>
  have hpl : (pad u).length ≤ 1 := by unfold pad; split <;> simp
  go_wp2_with (go_at_call 13; go_must (refine (appendInt_st hAI W0 _ _ _ hcut u (by omega) (by omega) (by simp; omega) ?_).mono ?_))
  · exact Lib.tabBelow_of_tabIs htab W0 hbW
  rintro e w8 ⟨v8, rfl, hst8⟩
  go_wp2
  go_ret
  refine ⟨_, rfl, W0, hbW, ?_⟩
  have ek : n - (ds.length + 1) = k := by have := HK.out; omega
  have e : expText dst d0 ds n ex alt = T6 ++ pad u ++ dec u := by
    rw [HT6.out, HT5.out, HT4.out, HT3.out, HT2.out, HU.out, expText, ek]
  rw [e]
  simpa using hst8

/-- 'ZZAppendExponent': a new row that reads as the text; nothing that was there has turned. -/
def ZZSaid : Prop := ∀ (b off : Nat) (d0 : Int) (ds : List Int) (n : Nat) (ex : Int) (da : Option Addr) (dn : Nat) (dst : List Int) (alt : Bool) (w : World) (len : Nat), len = ds.length + 1 →
    w.cell? ⟨b, off, none⟩ = some (.int .u8 d0) → (∀ i, i < ds.length → w.cell? ⟨b, off + 1 + i, none⟩ = some (.int .u8 (ds.getD i 0))) →
    dn = dst.length → (da = none → dn = 0) → Row w da dst → dst.length ≤ 65536 → n ≤ 65536 → ds.length + 1 ≤ n → -1073741824 ≤ ex → ex ≤ 1073741824 → Tab w →
    Calls Tryd.prog 7 #[.slice (some ⟨b, off, none⟩) len len, .int .i64 n, .int .i64 ex, .slice da dn dn, .bool alt] w
      fun e w' => ∃ g cap, e = .returned (.slice (some ⟨g, 0, none⟩) (expText dst d0 ds n ex alt).length cap) ∧ (expText dst d0 ds n ex alt).length ≤ cap ∧ cap ≤ maxLen ∧ Row w' (some ⟨g, 0, none⟩) (expText dst d0 ds n ex alt) ∧ Below w.heap.size w w'

theorem expText_pos (dst : List Int) (d0 : Int) (ds : List Int) (n : Nat) (ex : Int) (alt : Bool) : 0 < (expText dst d0 ds n ex alt).length := by
  simp [expText]; omega

theorem zz_any (hAI : AppendIntSaid) : ZZSaid := by
  intro b off d0 ds n ex da dn dst alt w len hlen hd0 hds hdn hnone hdst hl hn hnl he0 he1 htab
  subst hlen
  have hx := appendExponent_st hAI b off d0 ds n ex da dn dst alt w hd0 hds hdn hnone hdst hl hn hnl he0 he1 htab
  have HX := hid hx
  clear hx hd0 hds hdst htab hAI hnone hdn
  go_enter Tryd.func7, Tryd.ntmps7
  go_wp2_with (go_at_call 11; go_must (refine HX.out.mono ?_))
  rintro e w1 ⟨v1, rfl, W0, hb0, hown, hb1⟩
  go_wp2
  go_ret
  have hpos := expText_pos dst d0 ds n ex alt
  have hown2 := hown
  obtain ⟨-, ⟨-, h⟩ | ⟨g, cap, cur, rfl, hg, hh, h1, h2, h3, h4⟩⟩ := hown2
  · omega
  refine ⟨g, cap, rfl, h1, h2, .inr ⟨g, 0, rfl, fun i hi => ?_⟩, hb0.trans (hb1.mono hb0.size)⟩
  rw [Nat.zero_add, hown.cellAt i (by omega)]
  simp [List.getD, hi]
end Go.Proofs.Qxb6617989aDoor
