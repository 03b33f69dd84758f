import Derived.Test.Qxb6618085aRead
namespace Go.Proofs.Qxb6618085a
open Go.RowKit

theorem Try.info21 : (Try.prog.info? 21).map (fun i => (i.zero, i.size, i.bytes)) = some (some (.int .i32 0), 1, 4) := by kernel_rfl

set_option maxHeartbeats 400000 in
theorem zzBytes20_yes (a0 : Option Addr) (l0 c0 : Nat) (p n : Int) (w : World) (h : l0 ≤ 1048576) :
    Calls Try.prog 20 #[.slice a0 l0 c0, .int .i64 p, .int .i64 n] w fun e w' => e = .returned (.bool true) ∧ w' = w := by
  go_enter Try.func20, Try.ntmps20
  go_wp2
  go_ret
  exact ⟨rfl, rfl⟩

set_option maxHeartbeats 400000 in
theorem zzBytes20_no (a0 : Option Addr) (l0 c0 : Nat) (p n : Int) (w : World) (h : ¬ l0 ≤ 1048576) :
    Calls Try.prog 20 #[.slice a0 l0 c0, .int .i64 p, .int .i64 n] w fun e w' => e = .returned (.bool false) ∧ w' = w := by
  go_enter Try.func20, Try.ntmps20
  go_wp2
  go_ret
  exact ⟨rfl, rfl⟩

theorem q38 : ∀ (w : World) (a : Option Addr) (n c n' c' : Nat), (binOp .neq 38 (.slice a n c) (.slice none n' c')).run Try.prog w = .ok (.bool (!a.isNone)) w := fun w a n c n' c' => run_neq_slice_nil_any w _ _ a n c n' c' Try.underlying38

set_option maxRecDepth 100000 in
set_option maxHeartbeats 1000000 in
theorem law5_main (a : Option Addr) (cap : Nat) (l : List Int) (p n : Nat) (w : World) (hr : Row w a l) (hcap : l.length ≤ cap) (hl : l.length ≤ 262144) (hp : p ≤ 1048576) (hn : n ≤ 1048576) (hb : ∀ i, i < l.length → -2147483648 ≤ l.getD i 0 ∧ l.getD i 0 ≤ 2147483647) :
    Calls Try.prog 5 #[.slice a l.length cap, .int .i64 p, .int .i64 n] w fun e w' => e = .returned (.bool true) ∧ Below w.heap.size w w' := by
  obtain ⟨i0, hi, hz0, hz1, hz2⟩ := info_parts Try.info21
  have qn := q38
  have HR := hid hr
  have HB := hid hb
  clear hr hb
  go_enter Try.func5, Try.ntmps5
  go_upto_if 36 with (go_at_call 20; go_must (refine (zzBytes20_yes _ _ _ _ _ _ (by omega)).mono ?_); rintro e w ⟨rfl, rfl⟩)
  go_cut [0] from 35 to 43 (fun s wx => ∃ a' cap', s = .slice a' l.length cap' ∧ l.length ≤ cap' ∧ Row wx a' l ∧ Below w.heap.size w wx)
  case first =>
    cases a with
    | none =>
      go_wp2
      go_meet
      case rel => exact ⟨none, cap, rfl, hcap, HR.out, Below.refl _ _⟩
    | some x =>
      go_wp2_with (at_make; go_must (refine wpList_make_full _ rfl _ _ 38 rfl w.heap.size 21 i0 (.int .i32 0) 1 Try.underlying38 hi hz0 hz1 .i64 .i64 _ _ l.length rfl rfl rfl rfl (by rw [hz2]; omega) (by unfold maxLen; omega) (Nat.le_refl _) ?_))
      intro w1 hown hgrow
      have hb1 : Below w.heap.size w w1 := (Below.refl _ _).grown hgrow (Nat.le_refl _) (fun k hk => by cases hk)
      obtain ⟨-, ⟨h, -⟩ | ⟨g, cp, cur, hv, -, hh, -, -, hsz, -⟩⟩ := hown
      · cases h
      simp only [Value.slice.injEq, Option.some.injEq, Addr.mk.injEq] at hv
      obtain ⟨⟨rfl, -, -⟩, -, rfl⟩ := hv
      have ha1 := HR.out.later hb1
      obtain ⟨cs, hcs⟩ : ∃ cs, cs = l.map (Value.int .i32) := ⟨_, rfl⟩
      have hcl : cs.length = l.length := by rw [hcs]; simp
      have hcu : cur.toList.length = l.length := by simpa using hsz
      have HC : Hid (cs = l.map (Value.int .i32)) := hcs
      have hpos : 0 < cs.length → ∃ ad, some x = some ad ∧ ∀ j v, cs[j]? = some v → w1.cell? (ad.add j) = some v := by
        intro hp
        rcases ha1 with h | ⟨b, off, hx, hc⟩
        · rw [h] at hcl; simp only [List.length_nil] at hcl; omega
        · refine ⟨x, rfl, fun j v hj => ?_⟩
          cases hx
          have hjl : j < l.length := by have := (List.getElem?_eq_some_iff.1 hj).1; omega
          rw [hcs] at hj
          simp only [List.getElem?_map, List.getElem?_eq_getElem hjl, Option.map_some, Option.some.injEq] at hj
          rw [Addr.add_lit, hc j hjl, ← hj]
          simp [List.getD, hjl]
      have h1c : ∀ v ∈ cs, v.oneCell' = true := by rw [hcs]; exact ints_oneCell _ _
      have hh' : w1.heap[w.heap.size]? = some (.cells cur.toList.toArray 21 (0, 0)) := by simpa using hh
      have HH := hid hh'
      have HP := hid hpos
      have H1 := hid h1c
      have HB1 := hid hb1
      have HCL := hid hcl
      have HCU := hid hcu
      clear hcs hh' hpos h1c hh hb1 hcl hcu ha1 hgrow hsz
      go_wp2_with (refine wpList_copy_splice rfl (.tmp 40) (.tmp 41) 38 38 rfl 21 Try.underlying38 (by kernel_rfl) _ _ _ _ _ _ rfl rfl w.heap.size 0 cur.toList 21 HH.out cs (by rw [HCL.out]; simp) (fun hp => ⟨rfl, HP.out hp⟩) (by rw [HCL.out, HCU.out]; omega) H1.out w.heap.size w HB1.out (Nat.le_refl _) ?_)
      intro w2 hg2 hb2
      go_wp2
      go_meet
      case rel =>
        refine ⟨some ⟨w.heap.size, 0, none⟩, _, rfl, Nat.le_refl _, .inr ⟨w.heap.size, 0, rfl, fun j hj => ?_⟩, hb2⟩
        rw [cell_of_row _ _ _ _ _ _ hg2.out]
        have e : splice cur.toList 0 cs = cs := by
          have e0 : cur.toList.drop cs.length = [] := List.drop_eq_nil_of_le (by rw [HCL.out, HCU.out]; omega)
          simp [splice, e0]
        rw [e, HC.out]
        simp [List.getD, hj]
  case rest =>
  obtain ⟨a', cap', rfl, hcap', hr', hb'⟩ := hcut
  have HR' := hid hr'
  have HB' := hid hb'
  clear hr' hb' HR
  go_wp2_with (go_at_call 21; go_must (refine (zzHex_any a' _ cap' l p n _ HR'.out rfl hcap' hl (by omega) (by omega) HB.out).mono ?_); rintro e w3 ⟨rfl, hb3⟩; refine Hid.out ?_)
  refine hid ?_
  have HB3 := hid hb3
  clear hb3
  go_wp2_with (go_at_call 22; go_must (refine (hexWant_any a' _ cap' l p n _ (HR'.out.later HB3.out) rfl hl (by omega) (by omega)).mono ?_); rintro e w4 ⟨rfl, rfl⟩; refine Hid.out ?_)
  refine hid ?_
  have HBE := hid (HB'.out.trans (HB3.out.mono HB'.out.size))
  cases hok : rdOk l p n
  · have e1 : rdV l p n = 0 := by rw [rdV, hok]; rfl
    have e2 : rdAt l p n = p := by rw [rdAt, hok]; rfl
    rw [e1, e2]
    clear hok e1 e2
    go_wp2
    go_ret
    exact ⟨rfl, HBE.out⟩
  · have e2 : rdAt l p n = (p : Int) + (n : Int) := by rw [rdAt, if_pos hok]
    rw [e2]
    clear hok e2
    go_wp2
    go_ret
    exact ⟨rfl, HBE.out⟩
end Go.Proofs.Qxb6618085a
