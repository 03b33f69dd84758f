import Derived.Test.Qxb6618085aWd
import Derived.Test.Qxb6618085aPlainRef
namespace Go.Proofs.Qxb6618085a
open Go.RowKit

theorem Refs.low {w : World} {a : Option Addr} {rs : List RR} (h : Refs w a rs) : rs ≠ [] → ∀ x, a = some x → x.block < w.heap.size := by
  intro hne x hx
  rcases h with h | ⟨b, off, rfl, h⟩
  · exact absurd h hne
  · cases hx
    have := (h 0 (by cases rs with | nil => exact absurd rfl hne | cons => simp)).1
    exact World.block_lt_of_cell? w _ this

theorem Refs.cellsAt {w w' : World} {b off : Nat} {rs : List RR} (h : Refs w (some ⟨b, off, none⟩) rs) (hb : Below w.heap.size w w') (i : Nat) (hi : i < rs.length) :
    w'.cell? ⟨b, off + i * 4, none⟩ = some (.int .i64 (rs.getD i zeroRef).pos) ∧ w'.cell? ⟨b, off + i * 4 + 1, none⟩ = some (.int .i64 (rs.getD i zeroRef).num) ∧
    w'.cell? ⟨b, off + i * 4 + 2, none⟩ = some (.string (rs.getD i zeroRef).name) ∧ w'.cell? ⟨b, off + i * 4 + 3, none⟩ = some (.string (rs.getD i zeroRef).text) := by
  rcases h.later hb h.low with h | ⟨b', off', e, h⟩
  · rw [h] at hi; simp at hi
  · cases e; exact h i hi

theorem Parser.later {B bp : Nat} {s : PS} {w w' : World} (h : Parser B w bp s) (hb : Below w.heap.size w w') : Parser B w' bp s := by
  obtain ⟨bm, o8, o9, h1, h2, hP, hf, hh⟩ := h
  have k : Keep w w' := fun b cs e => by rw [hb.block b (lt_of_heap e)]; exact e
  exact ⟨bm, o8, o9, h1, h2, hP.stay (hb.block _ hP.lp) (hb.block _ hP.lm), hf.keep k, hh.keep k⟩

theorem neqNone (w : World) : (binOp .neq 29 (.agg #[.int .i64 0, .int .i64 0, .string ⟨#[]⟩, .string ⟨#[]⟩, .bool false]) (.agg #[.int .i64 0, .int .i64 0, .string ⟨#[]⟩, .string ⟨#[]⟩, .bool false])).run Try.prog w = .ok (.bool false) w := neq29 w none
theorem neqSome (w : World) (p n : Int) (m x : ByteArray) : (binOp .neq 29 (.agg #[.int .i64 p, .int .i64 n, .string m, .string x, .bool true]) (.agg #[.int .i64 p, .int .i64 n, .string m, .string x, .bool true])).run Try.prog w = .ok (.bool false) w := neq29 w (some ⟨p, n, m, x⟩)

theorem fwn_any (a : Option Addr) (cap : Nat) (rs : List RR) (s : ByteArray) (w : World) (hr : Refs w a rs) (hl : rs.length ≤ maxLen) (E : Int) (hE : E = idxInt (fwn rs s)) :
    Calls Try.prog 16 #[.slice a rs.length cap, .string s] w fun e w' => e = .returned (.int .i64 E) ∧ w' = w := by
  subst hE
  refine (firstWithName_any a cap rs s w hr hl).mono fun e w' h => ⟨?_, h.2⟩
  rw [h.1]
  cases fwn rs s <;> rfl

def Zs : Obj := .cells #[.int .i64 0, .int .i64 0, .string ⟨#[]⟩, .string ⟨#[]⟩, .bool false] 29 (0, 0)

def Mid (w : World) (bp : Nat) (s : PS) (wx : World) (N : Nat) : Prop := Parser w.heap.size wx bp s ∧ Below w.heap.size w wx ∧ wx.heap[N]? = some Zs
theorem Mid.later {w : World} {bp : Nat} {s : PS} {wx : World} {N : Nat} (h : Mid w bp s wx N) (x : Wd wx) : Mid w bp s x.w N :=
  ⟨h.1.later x.h, h.2.1.trans (x.h.mono h.2.1.size), by rw [x.h.block _ (lt_of_heap h.2.2)]; exact h.2.2⟩

set_option maxRecDepth 100000 in
set_option maxHeartbeats 1000000 in
theorem law3_main (a : Option Addr) (cap : Nat) (rs : List RR) (w : World) (hr : Refs w a rs) (hl : rs.length ≤ maxLen) :
    Calls Try.prog 3 #[.slice a rs.length cap] w fun e w' => e = .returned (.bool true) ∧ Below w.heap.size w w' := by
  have HR := hidr hr
  have HL := hidr hl
  clear hr hl
  have nq0 := neqNone
  have nq1 := neqSome
  go_enter Try.func3, Try.ntmps3
  go_wp2_with (go_at_call 8; go_must (refine (zzBytes8_any a cap rs _ HR.out HL.out).mono ?_))
  rintro e w ⟨⟨b, rfl, hb⟩, rfl⟩
  cases b with
  | false =>
    go_wp2
    go_ret
    exact ⟨rfl, Below.refl _ _⟩
  | true =>
  have hle := hb rfl
  clear hb
  go_wp2_with (go_at_call 9; go_must (refine (refsSize_any a cap rs _ HR.out hle).mono ?_))
  rintro e w2 ⟨t, q, rfl, ⟨t0, t1⟩, rfl⟩
  by_cases ht : t ≤ 1048576
  case neg =>
    go_wp2
    go_ret
    exact ⟨rfl, below_drewN (Below.refl _ _) _⟩
  case pos =>
  have td : decide (1048576 < t) = false := decide_eq_false (by omega)
  go_wp2_with (go_at_call 10; go_must (refine (newParser_any _).mono ?_))
  rintro e w3 ⟨bp, rfl, hP, hB⟩
  replace hB : Below w.heap.size w w3 := (below_drewN (Below.refl _ _) q).trans hB
  replace hP : Parser w.heap.size w3 bp s0 := hP
  have HP := hidr hP
  have HB := hidr hB
  clear hP hB
  go_wp2_with (go_at_call 11; go_must (refine (noteAll_any w.heap.size bp s0 a cap rs _ HP.out (HR.out.later HB.out HR.out.low) HL.out HR.out.low).mono ?_))
  rintro e w4 ⟨rfl, hP, hB⟩
  replace hB := HB.out.trans hB
  clear HB HP
  obtain ⟨s, hs⟩ : ∃ s, s = noteL s0 rs := ⟨_, rfl⟩
  rw [← hs] at hP
  have HS := hidr hs
  clear hs
  have hM : Mid w bp s (w4.alloc (.cells #[.int .i64 0, .int .i64 0, .string ⟨#[]⟩, .string ⟨#[]⟩, .bool false] 29)) w4.heap.size := ⟨hP.alloc _, hB.alloc (by have := hB.size; omega) _, blk_new _ _⟩
  have HM := hidr hM
  clear hM hP hB
  have hfi : s.first = rs.head? := by rw [HS.out, noteL_first]; rfl
  have hhi : s.high = HH rs := by rw [HS.out, noteL_high]; rfl
  have hna : s.named = NN rs := by rw [HS.out, noteL_named]; rfl
  have HFI := hidr hfi
  have HHI := hidr hhi
  have HNA := hidr hna
  clear hfi hhi hna
  go_upto_if 22 with (fail)
  obtain ⟨N4, hN4⟩ : ∃ N4, N4 = w4.heap.size := ⟨_, rfl⟩
  generalize w4.alloc (.cells #[.int .i64 0, .int .i64 0, .string ⟨#[]⟩, .string ⟨#[]⟩, .bool false] 29) = W5 at HM ⊢
  rw [← hN4] at HM ⊢
  clear hN4
  go_cut [] from 22 to 33 (fun wx => Hid (Mid w bp s wx N4))
  case first =>
    by_cases h0 : rs = []
    · subst h0
      have V : ∀ x : Wd W5, Calls Try.prog 12 #[.pointer (some ⟨bp, 0, none⟩)] x.w fun e w' => e = .returned (.agg #[.int .i64 0, .int .i64 0, .string ⟨#[]⟩, .string ⟨#[]⟩, .bool false]) ∧ ∃ y : Wd W5, w' = y.w := fun x =>
        calls_wd (by have := viewFirst_any w.heap.size bp s x.w (HM.out.later x).1; rw [HFI.out] at this; exact this)
      have HV := hidr V
      have z : ∀ x : Wd W5, _ := fun x => cells5 (HM.out.later x).2.2
      have z0 := fun x => (z x).1
      have z1 := fun x => (z x).2.1
      have z2 := fun x => (z x).2.2.1
      have z3 := fun x => (z x).2.2.2.1
      have z4 := fun x => (z x).2.2.2.2
      clear V z
      go_wp2
      refine region_wd (by kernel_rfl) (by kernel_rfl) ?_
      repeat (go_big_quiet_step ((go_at_call 12; exact HV.out _)))
      refine wpQuiet_nil ?_
      rintro _ ⟨x, rfl⟩
      go_wp2
      go_meet
      case rel => exact HM.out.later x
    · have hle0 : 0 < rs.length := by cases rs with | nil => exact absurd rfl h0 | cons => simp
      have b0 : ((rs.length : Int) == 0) = false := by rw [beq_eq_false_iff_ne]; omega
      have i0 : (0 : Int) < (rs.length : Int) := by omega
      rcases HR.out with h | ⟨b, off, rfl, hc⟩
      · exact absurd h h0
      have hd := fun x : Wd W5 => HR.out.cellsAt (HM.out.later x).2.1 0 hle0
      have hf0 : s.first = some (rs.getD 0 zeroRef) := by rw [HFI.out]; cases rs with | nil => exact absurd rfl h0 | cons => rfl
      obtain ⟨r0, hr0⟩ : ∃ r0, r0 = rs.getD 0 zeroRef := ⟨_, rfl⟩
      rw [← hr0] at hd hf0
      obtain ⟨p, n, m, tx⟩ := r0
      have V : ∀ x : Wd W5, Calls Try.prog 12 #[.pointer (some ⟨bp, 0, none⟩)] x.w fun e w' => e = .returned (.agg #[.int .i64 p, .int .i64 n, .string m, .string tx, .bool true]) ∧ ∃ y : Wd W5, w' = y.w := fun x =>
        calls_wd (by have := viewFirst_any w.heap.size bp s x.w (HM.out.later x).1; rw [hf0] at this; exact this)
      have U : ∀ x : Wd W5, Calls Try.prog 13 #[.agg #[.int .i64 p, .int .i64 n, .string m, .string tx]] x.w fun e w' => e = .returned (.agg #[.int .i64 p, .int .i64 n, .string m, .string tx, .bool true]) ∧ ∃ y : Wd W5, w' = y.w := fun x =>
        calls_wd (refOf_any ⟨p, n, m, tx⟩ x.w)
      have HV := hidr V
      have HU := hidr U
      have d0 := fun x => (hd x).1
      have d1 := fun x => (hd x).2.1
      have d2 := fun x => (hd x).2.2.1
      have d3 := fun x => (hd x).2.2.2
      simp only [Nat.zero_mul, Nat.add_zero] at d0 d1 d2 d3
      clear V U hd hc hr0 hf0 h0
      go_wp2
      refine region_wd (by kernel_rfl) (by kernel_rfl) ?_
      repeat (go_big_quiet_step (first | (go_at_call 12; exact HV.out _) | (go_at_call 13; exact HU.out _)))
      refine wpQuiet_nil ?_
      rintro _ ⟨x, rfl⟩
      go_wp2
      go_meet
      case rel => exact HM.out.later x
  case rest =>
  have HM := hcut
  clear hcut HFI
  obtain ⟨E, hE⟩ : ∃ E, E = idxInt (hIdx rs) := ⟨_, rfl⟩
  have HE := hidr hE
  clear hE
  go_wp2_with (go_at_call 14; go_must (refine (highestIndex_any a cap rs _ (HR.out.later HM.out.2.1 HR.out.low) HL.out).mono ?_))
  rintro e wd ⟨rfl, rfl⟩
  rw [← HE.out]
  go_upto_if 37 with (fail)
  go_cut [] from 37 to 49 (fun wx => Hid (Mid w bp s wx N4))
  case first =>
    cases hix : hIdx rs with
    | none =>
      obtain rfl : E = -1 := by rw [HE.out, hix]; rfl
      have hhn : s.high = none := by rw [HHI.out, high_idx, hix]; rfl
      have V : ∀ x : Wd wd, Calls Try.prog 15 #[.pointer (some ⟨bp, 0, none⟩)] x.w fun e w' => e = .returned (.agg #[.int .i64 0, .int .i64 0, .string ⟨#[]⟩, .string ⟨#[]⟩, .bool false]) ∧ ∃ y : Wd wd, w' = y.w := fun x =>
        calls_wd (by have := viewHighest_any w.heap.size bp s x.w (HM.out.later x).1; rw [hhn] at this; exact this)
      have HV := hidr V
      have z : ∀ x : Wd wd, _ := fun x => cells5 (HM.out.later x).2.2
      have z0 := fun x => (z x).1
      have z1 := fun x => (z x).2.1
      have z2 := fun x => (z x).2.2.1
      have z3 := fun x => (z x).2.2.2.1
      have z4 := fun x => (z x).2.2.2.2
      clear V z hhn hix
      go_wp2
      refine region_wd (by kernel_rfl) (by kernel_rfl) ?_
      repeat (go_big_quiet_step ((go_at_call 15; exact HV.out _)))
      refine wpQuiet_nil ?_
      rintro _ ⟨x, rfl⟩
      go_wp2
      go_meet
      case rel => exact HM.out.later x
    | some j =>
      obtain rfl : E = (j : Int) := by rw [HE.out, hix]; rfl
      have hjl := hIdx_lt rs j hix
      have i0 : (j : Int) < (rs.length : Int) := by omega
      have dj : decide ((j : Int) < 0) = false := decide_eq_false (by omega)
      rcases HR.out with h | ⟨b, off, rfl, hc⟩
      · rw [h] at hjl; simp at hjl
      have hd := fun x : Wd wd => HR.out.cellsAt (HM.out.later x).2.1 j hjl
      have hf0 : s.high = some (rs.getD j zeroRef) := by rw [HHI.out, high_idx, hix]; rfl
      obtain ⟨r0, hr0⟩ : ∃ r0, r0 = rs.getD j zeroRef := ⟨_, rfl⟩
      rw [← hr0] at hd hf0
      obtain ⟨p, n, m, tx⟩ := r0
      have V : ∀ x : Wd wd, Calls Try.prog 15 #[.pointer (some ⟨bp, 0, none⟩)] x.w fun e w' => e = .returned (.agg #[.int .i64 p, .int .i64 n, .string m, .string tx, .bool true]) ∧ ∃ y : Wd wd, w' = y.w := fun x =>
        calls_wd (by have := viewHighest_any w.heap.size bp s x.w (HM.out.later x).1; rw [hf0] at this; exact this)
      have U : ∀ x : Wd wd, Calls Try.prog 13 #[.agg #[.int .i64 p, .int .i64 n, .string m, .string tx]] x.w fun e w' => e = .returned (.agg #[.int .i64 p, .int .i64 n, .string m, .string tx, .bool true]) ∧ ∃ y : Wd wd, w' = y.w := fun x =>
        calls_wd (refOf_any ⟨p, n, m, tx⟩ x.w)
      have HV := hidr V
      have HU := hidr U
      have d0 := fun x => (hd x).1
      have d1 := fun x => (hd x).2.1
      have d2 := fun x => (hd x).2.2.1
      have d3 := fun x => (hd x).2.2.2
      clear V U hd hc hr0 hf0 hix
      go_wp2
      refine region_wd (by kernel_rfl) (by kernel_rfl) ?_
      repeat (go_big_quiet_step (first | (go_at_call 15; exact HV.out _) | (go_at_call 13; exact HU.out _)))
      refine wpQuiet_nil ?_
      rintro _ ⟨x, rfl⟩
      go_wp2
      go_meet
      case rel => exact HM.out.later x
  case rest =>
  clear HM
  have HM := hcut
  clear hcut HHI
  go_wp2
  go_loopw [6, 7] (fun d z wr => ∃ k D : Nat, k ≤ rs.length ∧ D ≤ k ∧ z = .int .i64 k ∧ d = .int .i64 D ∧ Hid (D = (NN (rs.take k)).length) ∧ Hid (Mid w bp s wr N4)) (fun _ x _ => rs.length - (intOf x).toNat)
  case atStart => exact ⟨0, 0, by omega, by omega, by go_num, by go_num, rfl, HM⟩
  case round =>
    obtain ⟨k, D, hk, hDk, rfl, rfl, hD, HMr⟩ := hrel
    by_cases hlt : k < rs.length
    · rcases HR.out with h | ⟨b, off, rfl, hc⟩
      · rw [h] at hlt; simp at hlt
      have i1 : (k : Int) < (rs.length : Int) := by omega
      obtain ⟨-, -, c2, -⟩ := HR.out.cellsAt HMr.out.2.1 k hlt
      have hlen := NN_len rs k hlt
      have hnat := named_at rs k hlt
      obtain ⟨nm, hnm⟩ : ∃ nm, nm = (rs.getD k zeroRef).name := ⟨_, rfl⟩
      rw [← hnm] at c2 hlen hnat
      have HLN := hidr hlen
      have HNT := hidr hnat
      have HNM := hidr hnm
      clear hc hlen hnat hnm
      by_cases hn : nm = ⟨#[]⟩
      · have HX := hidr (show D = (NN (rs.take (k + 1))).length by rw [HLN.out, if_neg (fun h => h.1 hn), hD.out]; rfl)
        clear HNM
        subst hn
        go_wp2
        go_roundw
        case rel => exact ⟨k + 1, D, by omega, by omega, by go_num, by go_num, HX, HMr⟩
        case measure => simp [intOf]; omega
      · have bn : nm.toList.isEmpty = false := toList_ne nm hn
        have bn2 : ¬ nm.toList = [] := fun e => by rw [e] at bn; cases bn
        obtain ⟨j, hj, hjl, hlk⟩ := HNT.out hn
        have HJ := hidr hj
        have HN := hidr hn
        have HLK := hidr hlk
        clear hj hn hlk
        have i2 : (j : Int) < (rs.length : Int) := by omega
        go_wp2_with (go_at_call 16; go_must (refine (fwn_any (some ⟨b, off, none⟩) cap rs nm _ (HR.out.later HMr.out.2.1 HR.out.low) HL.out j (by rw [HJ.out]; rfl)).mono ?_))
        rintro e wr ⟨rfl, rfl⟩
        have hd := fun x : Wd wr => HR.out.cellsAt (HMr.out.later x).2.1 j hjl
        have hk2 := fun x : Wd wr => (HR.out.cellsAt (HMr.out.later x).2.1 k hlt).2.2.1
        rw [← HNM.out] at hk2
        have hlk := HLK.out
        obtain ⟨r0, hr0⟩ : ∃ r0, r0 = rs.getD j zeroRef := ⟨_, rfl⟩
        rw [← hr0] at hd hlk
        obtain ⟨p, n, m, tx⟩ := r0
        have V : ∀ x : Wd wr, Calls Try.prog 17 #[.pointer (some ⟨bp, 0, none⟩), .string nm] x.w fun e w' => e = .returned (.agg #[.int .i64 p, .int .i64 n, .string m, .string tx, .bool true]) ∧ ∃ y : Wd wr, w' = y.w := fun x =>
          calls_wd (by have := viewNamed_any w.heap.size bp s nm x.w (HMr.out.later x).1; rw [HNA.out, hlk] at this; exact this)
        have U : ∀ x : Wd wr, Calls Try.prog 13 #[.agg #[.int .i64 p, .int .i64 n, .string m, .string tx]] x.w fun e w' => e = .returned (.agg #[.int .i64 p, .int .i64 n, .string m, .string tx, .bool true]) ∧ ∃ y : Wd wr, w' = y.w := fun x =>
          calls_wd (refOf_any ⟨p, n, m, tx⟩ x.w)
        have HV := hidr V
        have HU := hidr U
        have d0 := fun x => (hd x).1
        have d1 := fun x => (hd x).2.1
        have d2 := fun x => (hd x).2.2.1
        have d3 := fun x => (hd x).2.2.2
        have HR0 := hidr hr0
        clear V U hd hr0 hlk
        by_cases hjk : j = k
        · subst hjk
          obtain rfl : nm = m := by rw [HNM.out, ← HR0.out]
          have HX := hidr (show D + 1 = (NN (rs.take (j + 1))).length by rw [HLN.out, if_pos ⟨HN.out, HJ.out⟩, hD.out])
          go_wp2
          refine region_wd (by kernel_rfl) (by kernel_rfl) ?_
          repeat (go_big_quiet_step (first | (go_at_call 17; exact HV.out _) | (go_at_call 13; exact HU.out _)))
          refine wpQuiet_nil ?_
          rintro _ ⟨x, rfl⟩
          go_wp2
          go_roundw
          case rel => exact ⟨j + 1, D + 1, by omega, by omega, by go_num, by go_num, HX, HMr.out.later x⟩
          case measure => simp [intOf]; omega
        · have bj : ((j : Int) == (k : Int)) = false := by rw [beq_eq_false_iff_ne]; omega
          have HX := hidr (show D = (NN (rs.take (k + 1))).length by rw [HLN.out, if_neg (fun h => hjk (by have := h.2; rw [HJ.out] at this; exact Option.some.inj this)), hD.out]; rfl)
          go_wp2
          refine region_wd (by kernel_rfl) (by kernel_rfl) ?_
          repeat (go_big_quiet_step (first | (go_at_call 17; exact HV.out _) | (go_at_call 13; exact HU.out _)))
          refine wpQuiet_nil ?_
          rintro _ ⟨x, rfl⟩
          go_wp2
          go_roundw
          case rel => exact ⟨k + 1, D, by omega, by omega, by go_num, by go_num, HX, HMr.out.later x⟩
          case measure => simp [intOf]; omega
    · obtain rfl : k = rs.length := by omega
      go_wp2_with (go_at_call 18; go_must (refine (namedCount_any w.heap.size bp s _ HMr.out.1).mono ?_))
      rintro e we ⟨rfl, rfl⟩
      have hsl : s.named.length = D := by rw [HNA.out, hD.out, List.take_length]
      rw [hsl]
      clear hsl
      go_wp2
      go_ret
      exact ⟨rfl, HMr.out.2.1⟩
end Go.Proofs.Qxb6618085a
