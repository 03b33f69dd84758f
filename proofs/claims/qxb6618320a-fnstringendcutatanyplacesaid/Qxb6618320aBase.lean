import Derived.Test.Qxb6618320aRows
import Derived.WalkKit
import Derived.WalkSpells
import Derived.WalkLawsBesides
import Derived.Laws.CopyOwn
import Derived.Deep.QuietTactic
import Derived.BigQuiet
import Derived.Deep.DeepCutAuto
namespace Go.Proofs.Qxb6618320a
open Go.RowKit

theorem hid {p : Prop} (h : p) : Hid p := h
theorem ret_int {k : IntKind} {a b : Int} (h : a = b) : Ending.returned (.int k a) = .returned (.int k b) := by rw [h]
theorem Try.info5 : (Try.prog.info? 5).map (fun i => (i.zero, i.size, i.bytes)) = some (some (.int .u8 0), 1, 1) := by kernel_rfl

/-- WHAT A WALK IS TOLD OF A SLICE OF BYTES: it has no element, or its address is known and each cell is known. -/
def Row (w : World) (a : Option Addr) (l : List Int) : Prop :=
  l = [] ∨ ∃ b off, a = some ⟨b, off, none⟩ ∧ ∀ i, i < l.length → w.cell? ⟨b, off + i, none⟩ = some (.int .u8 (l.getD i 0))

theorem Row.later {w w' : World} {a : Option Addr} {l : List Int} (h : Row w a l) (hb : Below w.heap.size w w') : Row w' a l := by
  rcases h with rfl | ⟨b, off, rfl, h⟩
  · exact .inl rfl
  · exact .inr ⟨b, off, rfl, fun i hi => cell_later hb (h i hi)⟩

/-- A scanner of strings: 'e': the byte is escaped. How many bytes up to and with the closing quote, or all. -/
def scanE : Bool → List Int → Nat
  | _, [] => 0
  | true, _ :: r => 1 + scanE false r
  | false, c :: r => if c = 92 then 1 + scanE true r else if c = 34 then 1 else 1 + scanE false r

theorem scanE_le (l : List Int) : ∀ e, scanE e l ≤ l.length := by
  induction l with
  | nil => intro e; cases e <;> simp [scanE]
  | cons c r ih =>
    intro e
    have h1 := ih true
    have h2 := ih false
    cases e
    · simp only [scanE, List.length_cons]
      split
      · omega
      · split <;> omega
    · simp only [scanE, List.length_cons]
      omega

/-- What 'stringEnd' answers. -/
def SE (l : List Int) (i : Nat) : Nat := i + 1 + scanE false (l.drop (i + 1))

theorem getD_left (A B : List Int) (i : Nat) (h : i < A.length) : (A ++ B).getD i 0 = A.getD i 0 := by
  simp [List.getD, List.getElem?_append_left h]
theorem getD_right (A B : List Int) (i : Nat) : (A ++ B).getD (A.length + i) 0 = B.getD i 0 := by
  simp [List.getD, List.getElem?_append_right]
theorem drop_at (l : List Int) (j : Nat) (h : j < l.length) : l.drop j = l.getD j 0 :: l.drop (j + 1) := by
  rw [List.drop_eq_getElem_cons h]
  simp [List.getD, h]

set_option maxHeartbeats 400000 in
theorem stringEnd_any (a : Option Addr) (len cap : Nat) (l : List Int) (i : Nat) (w : World) (hr : Row w a l) (hlen : len = l.length) (hl : l.length ≤ 1048578) (hi : i < l.length) :
    Calls Try.prog 10 #[.slice a len cap, .int .i64 i] w fun e w' => e = .returned (.int .i64 (SE l i)) ∧ w' = w := by
  subst hlen
  rcases hr with hr | ⟨b, off, rfl, hr⟩
  · rw [hr] at hi; simp at hi
  have HR := hid hr
  clear hr
  obtain ⟨E, hE⟩ : ∃ E, E = SE l i := ⟨_, rfl⟩
  rw [← hE]
  have HE := hid hE
  clear hE
  go_enter Try.func10, Try.ntmps10
  go_wp2
  go_loop [1] (fun x => ∃ j : Nat, j ≤ l.length + 1 ∧ x = .int .i64 j ∧ Hid (E = min j l.length + scanE false (l.drop j))) (fun x => l.length + 1 - (intOf x).toNat)
  case atStart => exact ⟨i + 1, by omega, by go_num, by show _ = _; rw [HE.out, SE, Nat.min_eq_left (by omega)]⟩
  case round =>
    obtain ⟨j, hj, rfl, hE⟩ := hrel
    by_cases hlt : j < l.length
    · have hc := HR.out j hlt
      have hd := drop_at l j hlt
      obtain ⟨c, hcd⟩ : ∃ c, c = l.getD j 0 := ⟨_, rfl⟩
      rw [← hcd] at hc hd
      have hE1 := hE.out
      rw [hd, Nat.min_eq_left (by omega)] at hE1
      clear hcd
      have i1 : (j : Int) < (l.length : Int) := by omega
      by_cases h92 : c = 92
      · subst h92
        have hE2 : E = min (j + 2) l.length + scanE false (l.drop (j + 2)) := by
          simp only [scanE, if_pos] at hE1
          by_cases hlast : j + 1 < l.length
          · rw [drop_at l (j + 1) hlast] at hE1
            simp only [scanE] at hE1
            have e2 : scanE false (l.drop (j + 1 + 1)) = scanE false (l.drop (j + 2)) := rfl
            rw [Nat.min_eq_left (by omega)]
            omega
          · rw [List.drop_eq_nil_of_le (by omega)] at hE1
            rw [List.drop_eq_nil_of_le (by omega)]
            simp only [scanE] at hE1 ⊢
            omega
        have HE2 := hid hE2
        clear hE1 hE2 hE hd
        go_wp2
        go_round
        case rel => exact ⟨j + 2, by omega, by go_num, HE2.out⟩
        case measure => simp [intOf]; omega
      · have b92 : (c == 92) = false := by simp [h92]
        by_cases h34 : c = 34
        · subst h34
          have hE2 : E = j + 1 := by
            simp only [scanE, if_neg h92, if_pos] at hE1
            exact hE1
          have HE2 := hid hE2
          clear hE1 hE2 hE hd h92 b92
          go_wp2
          go_ret
          exact ⟨ret_int (by rw [HE2.out]; omega), rfl⟩
        · have b34 : (c == 34) = false := by simp [h34]
          have hE2 : E = min (j + 1) l.length + scanE false (l.drop (j + 1)) := by
            simp only [scanE, if_neg h92, if_neg h34] at hE1
            rw [Nat.min_eq_left (by omega)]
            omega
          have HE2 := hid hE2
          clear hE1 hE2 hE hd h92 h34
          go_wp2
          go_round
          case rel => exact ⟨j + 1, by omega, by go_num, HE2.out⟩
          case measure => simp [intOf]; omega
    · have hE1 := hE.out
      rw [List.drop_eq_nil_of_le (by omega), Nat.min_eq_right (by omega)] at hE1
      have HE2 := hid (show E = l.length by simpa [scanE] using hE1)
      clear hE1 hE
      go_wp2
      go_ret
      exact ⟨ret_int (by rw [HE2.out]), rfl⟩

set_option maxHeartbeats 400000 in
theorem zzStringEnd_any (a : Option Addr) (len cap : Nat) (l : List Int) (i : Nat) (I : Int) (w : World) (hr : Row w a l) (hlen : len = l.length) (hl : l.length ≤ 1048578) (hi : i < l.length) (hI : I = (i : Int)) :
    Calls Try.prog 6 #[.slice a len cap, .int .i64 I] w fun e w' => e = .returned (.int .i64 (SE l i)) ∧ w' = w := by
  subst hI
  have hX := stringEnd_any a len cap l i w hr hlen hl hi
  have HX := hid hX
  clear hX hr hlen
  go_enter Try.func6, Try.ntmps6
  go_wp2_with (go_at_call 10; go_must (refine HX.out.mono ?_); rintro e w1 ⟨rfl, rfl⟩)
  go_ret
  exact ⟨rfl, rfl⟩

/-- The first k of P laid over zeros. -/
def fillTo (P : List Int) (k : Nat) : List Int := P.take k ++ List.replicate (P.length - k) 0
theorem fillTo_len (P : List Int) (k : Nat) (h : k ≤ P.length) : (fillTo P k).length = P.length := by simp [fillTo]; omega
theorem fillTo_zero (P : List Int) : fillTo P 0 = List.replicate P.length 0 := by simp [fillTo]
theorem fillTo_all (P : List Int) : fillTo P P.length = P := by simp [fillTo]
theorem fillTo_set (P : List Int) (k : Nat) (h : k < P.length) : (fillTo P k).set k (P.getD k 0) = fillTo P (k + 1) := by
  refine List.ext_getElem (by simp [fillTo]; omega) ?_
  intro i h1 h2
  simp only [fillTo, List.getElem_set, List.getElem_append, List.length_take]
  by_cases e : k = i
  · subst e
    simp [List.getD, h, Nat.min_eq_left (show k + 1 ≤ P.length by omega)]
  · simp only [e, if_false]
    by_cases hlt : i < k
    · rw [dif_pos (by omega), dif_pos (by omega)]; simp
    · rw [dif_neg (by omega), dif_neg (by omega)]; simp

/-- A row of the call's own, filled so far. -/
def Filled (w0 w : World) (P : List Int) (k : Nat) : Prop :=
  w.ownsRow w0.heap.size 5 1 (.slice (some ⟨w0.heap.size, 0, none⟩) P.length P.length) P.length ((fillTo P k).map (Value.int .u8)) ∧ Below w0.heap.size w0 w

theorem Filled.cell {w0 w : World} {P : List Int} {k : Nat} (h : Filled w0 w P k) (hk : k < P.length) : w.cell? ⟨w0.heap.size, k, none⟩ = some (.int .u8 ((fillTo P k).getD k 0)) := by
  rw [h.1.cellAt k (by omega)]
  simp [List.getD, show k < (fillTo P k).length by rw [fillTo_len P k (by omega)]; exact hk]
theorem Filled.step {w0 w : World} {P : List Int} {k : Nat} (h : Filled w0 w P k) (hk : k < P.length) (d : Int) (hd : d = P.getD k 0) : Filled w0 (w.setCell ⟨w0.heap.size, k, none⟩ (.int .u8 d)) P (k + 1) := by
  have hst := (h.1.stored k (.int .u8 d)).1
  rw [← List.map_set, hd, fillTo_set P k hk, ← hd] at hst
  exact ⟨hst, h.2.setCell (Nat.le_refl _) _⟩

set_option maxHeartbeats 800000 in
theorem zzCat_any (a b : Option Addr) (la lb ca cb : Nat) (x y : List Int) (w : World) (ha : Row w a x) (hb : Row w b y) (hla : la = x.length) (hlb : lb = y.length) (hx : x.length ≤ 524288) (hy : y.length ≤ 524288) :
    Calls Try.prog 8 #[.slice a la ca, .slice b lb cb] w fun e w' => ∃ a', e = .returned (.slice a' (x.length + y.length) (x.length + y.length)) ∧ Row w' a' (x ++ y) ∧ Below w.heap.size w w' := by
  subst hla
  subst hlb
  obtain ⟨i0, hi, hz0, hz1, hz2⟩ := info_parts Try.info5
  obtain ⟨P, hP⟩ : ∃ P, P = x ++ y := ⟨_, rfl⟩
  have hPl : P.length = x.length + y.length := by rw [hP]; simp
  obtain ⟨N, hN⟩ : ∃ N : Nat, N = x.length + y.length := ⟨_, rfl⟩
  have hNi : (x.length : Int) + (y.length : Int) = (N : Int) := by omega
  have HA := hid ha
  have HB := hid hb
  have HP := hid hP
  have HPL := hid hPl
  have HN := hid hN
  have n1 : N ≤ 1048576 := by omega
  have n2 : x.length ≤ N := by omega
  clear ha hb hP hPl
  rw [← hN]
  clear hN
  go_enter Try.func8, Try.ntmps8
  go_wp2_with (at_make; go_must (refine wpList_make_full _ rfl _ _ 22 rfl w.heap.size 5 i0 (.int .u8 0) 1 Try.underlying22 hi hz0 hz1 .i64 .i64 _ _ N rfl rfl rfl rfl (by rw [hz2]; omega) (by unfold maxLen; omega) (Nat.le_refl _) ?_))
  intro w1 hown hgrow
  have hF : Filled w w1 P 0 := by
    refine ⟨?_, (Below.refl _ _).grown hgrow (Nat.le_refl _) (fun k hk => by cases hk)⟩
    rw [fillTo_zero, HPL.out, ← HN.out]
    simpa [toList_madeCells_one] using hown
  have HF := hid hF
  clear hown hgrow hF
  go_wp2_with fail
  go_loopw [6] (fun i wr => ∃ k : Nat, k ≤ x.length ∧ i = .int .i64 k ∧ Filled w wr P k) (fun i _ => x.length - (intOf i).toNat)
  case atStart => exact ⟨0, Nat.zero_le _, rfl, HF.out⟩
  case round =>
    obtain ⟨k, hk, rfl, hF⟩ := hrel
    by_cases hlt : k < x.length
    · have hkP : k < P.length := by rw [HPL.out]; omega
      have hca := hF.cell hkP
      have hfa := hF.1.frozenAt k
      rcases HA.out with h | ⟨b1, o1, hx1, hc1⟩
      · rw [h] at hlt; simp at hlt
      subst hx1
      have hcd := cell_later hF.2 (hc1 k hlt)
      obtain ⟨old, hold⟩ : ∃ old, old = (fillTo P k).getD k 0 := ⟨_, rfl⟩
      rw [← hold] at hca
      obtain ⟨d, hd⟩ : ∃ d, d = x.getD k 0 := ⟨_, rfl⟩
      rw [← hd] at hcd
      have hS := hF.step hkP d (by rw [hd, HP.out, getD_left _ _ _ hlt])
      have HS := hid hS
      have i1 : (k : Int) < (N : Int) := by omega
      clear hS hold hd hF hc1 hkP
      go_wp2
      go_roundw
      case rel => exact ⟨k + 1, by omega, by go_num, HS.out⟩
      case measure => simp [intOf]; omega
    · obtain rfl : k = x.length := by omega
      have HF2 := hid hF
      clear hF HF
      go_wp2_with fail
      go_loopw [7] (fun i wr => ∃ k : Nat, k ≤ y.length ∧ i = .int .i64 k ∧ Filled w wr P (x.length + k)) (fun i _ => y.length - (intOf i).toNat)
      case atStart => exact ⟨0, Nat.zero_le _, rfl, HF2.out⟩
      case round =>
        obtain ⟨k, hk, rfl, hF⟩ := hrel
        by_cases hlt : k < y.length
        · have hkP : x.length + k < P.length := by rw [HPL.out]; omega
          have hca := hF.cell hkP
          have hfa := hF.1.frozenAt (x.length + k)
          rcases HB.out with h | ⟨b1, o1, hx1, hc1⟩
          · rw [h] at hlt; simp at hlt
          subst hx1
          have hcd := cell_later hF.2 (hc1 k hlt)
          obtain ⟨old, hold⟩ : ∃ old, old = (fillTo P (x.length + k)).getD (x.length + k) 0 := ⟨_, rfl⟩
          rw [← hold] at hca
          obtain ⟨d, hd⟩ : ∃ d, d = y.getD k 0 := ⟨_, rfl⟩
          rw [← hd] at hcd
          have hS := hF.step hkP d (by rw [hd, HP.out, getD_right])
          have HS := hid hS
          have i1 : (x.length : Int) + (k : Int) < (N : Int) := by have := HN.out; omega
          clear hS hold hd hF hc1 hkP
          go_wp2
          go_roundw
          case rel => exact ⟨k + 1, by omega, by go_num, HS.out⟩
          case measure => simp [intOf]; omega
        · obtain rfl : k = y.length := by omega
          go_wp2
          go_ret
          have hfa : fillTo P (x.length + y.length) = P := by have := fillTo_all P; rw [HPL.out] at this; exact this
          refine ⟨some ⟨w.heap.size, 0, none⟩, rfl, .inr ⟨_, 0, rfl, fun i hi => ?_⟩, hF.2⟩
          have h1 := hF.1
          rw [hfa] at h1
          rw [← HP.out] at hi ⊢
          rw [Nat.zero_add, h1.cellAt i (by omega)]
          simp [List.getD, hi]
end Go.Proofs.Qxb6618320a
