import Derived.Test.Qxb6618320aParity
import Derived.Great.BuildSlice
namespace Go.Proofs.Qxb6618320a
open Go.RowKit

set_option maxHeartbeats 400000 in
theorem zzBytes5_yes (a0 a1 : Option Addr) (l0 c0 l1 c1 : Nat) (i : Int) (w : World) (h : l0 + l1 ≤ 1048576) :
    Calls Try.prog 5 #[.slice a0 l0 c0, .slice a1 l1 c1, .int .i64 i] w fun e w' => e = .returned (.bool true) ∧ w' = w := by
  go_enter Try.func5, Try.ntmps5
  go_wp2
  go_ret
  exact ⟨rfl, rfl⟩

set_option maxHeartbeats 400000 in
theorem zzBytes5_no (a0 a1 : Option Addr) (l0 c0 l1 c1 : Nat) (i : Int) (w : World) (h : ¬ l0 + l1 ≤ 1048576) (h0 : l0 ≤ maxLen) (h1 : l1 ≤ maxLen) :
    Calls Try.prog 5 #[.slice a0 l0 c0, .slice a1 l1 c1, .int .i64 i] w fun e w' => e = .returned (.bool false) ∧ w' = w := by
  unfold maxLen at h0 h1
  by_cases g0 : l0 ≤ 1048576
  · by_cases g1 : l1 ≤ 1048576
    · go_enter Try.func5, Try.ntmps5
      go_wp2
      go_ret
      exact ⟨rfl, rfl⟩
    · go_enter Try.func5, Try.ntmps5
      go_wp2
      go_ret
      exact ⟨rfl, rfl⟩
  · go_enter Try.func5, Try.ntmps5
    go_wp2
    go_ret
    exact ⟨rfl, rfl⟩

/-- A text read on: closed inside it, or all of it read and a state left. -/
theorem scan_split (t : List Int) : ∀ e, (∀ u, scanE e (t ++ u) = scanE e t) ∨ (∃ e', scanE e t = t.length ∧ ∀ u, scanE e (t ++ u) = t.length + scanE e' u) := by
  induction t with
  | nil =>
    intro e
    refine .inr ⟨e, by cases e <;> rfl, fun u => by simp⟩
  | cons c r ih =>
    intro e
    have go : ∀ e1, (∀ u, scanE e (c :: u) = 1 + scanE e1 u) → (∀ u, scanE e (c :: r ++ u) = scanE e (c :: r)) ∨ (∃ e', scanE e (c :: r) = (c :: r).length ∧ ∀ u, scanE e (c :: r ++ u) = (c :: r).length + scanE e' u) := by
      intro e1 h
      rcases ih e1 with g | ⟨e', g1, g2⟩
      · refine .inl fun u => ?_
        rw [List.cons_append, h, h, g]
      · refine .inr ⟨e', ?_, fun u => ?_⟩
        · rw [h, g1, List.length_cons]; omega
        · rw [List.cons_append, h, g2, List.length_cons]; omega
    cases e
    · by_cases h92 : c = 92
      · exact go true fun u => by simp [scanE, h92]
      · by_cases h34 : c = 34
        · refine .inl fun u => ?_
          simp [scanE, h34]
        · exact go false fun u => by simp [scanE, h92, h34]
    · exact go false fun u => by simp [scanE]

theorem cut_cases (x y : List Int) (i : Nat) (hi : i < x.length) :
    (SE (x ++ [34, 34]) i = SE x i ∧ SE (x ++ y) i = SE x i) ∨
    (SE x i = x.length ∧ SE (x ++ [34, 34]) i = x.length + 1 ∧ SE (x ++ y) i + 1 = x.length + SE ([34] ++ y) 0) ∨
    (SE x i = x.length ∧ SE (x ++ [34, 34]) i = x.length + 2 ∧ SE (x ++ y) i + 2 = x.length + SE ([34, 92] ++ y) 0) := by
  have d : ∀ u, (x ++ u).drop (i + 1) = x.drop (i + 1) ++ u := fun u => by rw [List.drop_append_of_le_length (by omega)]
  have ln : (x.drop (i + 1)).length = x.length - (i + 1) := by simp
  unfold SE
  rw [d, d]
  rcases scan_split (x.drop (i + 1)) false with g | ⟨e', g1, g2⟩
  · exact .inl ⟨by rw [g], by rw [g]⟩
  · rw [g1, g2, g2, ln]
    cases e'
    · refine .inr (.inl ⟨by omega, ?_, ?_⟩)
      · simp [scanE]; omega
      · simp; omega
    · refine .inr (.inr ⟨by omega, ?_, ?_⟩)
      · simp [scanE]; omega
      · simp [scanE]; omega

/-- A literal of bytes, under its guard. -/
theorem wpList_lit {P : Program} {ops : Array Oper} {rest : List Oper} {o : Oper} {a : Act} {w : World} {Q : Exit → Act → World → Prop} (hw : Region.wanted o (yielded ops a.tmps) = true) (t e : TypeId) (len : Nat) (parts : Array (Nat × Operand)) (ho : o.op = .buildSlice t len parts)
    (zs : List Int) (hu : P.underlying t = some (.slice e)) (hsz : (P.info? e).map (·.size) = some 1) (hz : ((P.info? e).bind (·.zero)).isSome = true)
    (hlen : len = zs.length) (hpos : 0 < len) (hsmall : len ≤ 2 ^ 24)
    (hparts : parts.toList = (zs.zipIdx 0).map fun x => (x.2, Operand.const (Value.int .u8 x.1)))
    (h : ∀ w1 a1, Row w1 a1 zs → Below w.heap.size w w1 → wpList P ops Q rest (a.put o.dst (.slice a1 len len)) w1) : wpList P ops Q (o :: rest) a w := by
  cases hie : P.info? e with
  | none => simp [hie] at hsz
  | some ie =>
    simp only [hie, Option.map_some, Option.some.injEq, Option.bind_some] at hsz hz
    obtain ⟨z, hzz⟩ := Option.isSome_iff_exists.1 hz
    refine wpList_step fun K hK => ?_
    rw [if_pos hw]
    refine wp_buildSlice t e len parts ho (zs.map (Value.int .u8)).toArray ie z hu hie hzz (by rw [hsz]; omega) (by rw [hsz]; omega) ?_ (hK _ _ (h _ _ ?_ ((Below.refl _ _).alloc (Nat.le_refl _) _)))
    · rw [parts_eval a parts .u8 zs hparts, hsz]
      exact Great.fill_flat _ _ (fun v hv => by obtain ⟨n, _, rfl⟩ := List.mem_map.1 hv; rfl) (by simp [hlen])
    · refine .inr ⟨w.heap.size, 0, rfl, fun j hj => ?_⟩
      rw [cell_of_row _ _ _ _ _ _ (show (w.alloc (.cells (zs.map (Value.int .u8)).toArray e)).heap[w.heap.size]? = some (.cells (zs.map (Value.int .u8)).toArray e (0, 0)) from by unfold World.alloc; exact Array.getElem?_push_size)]
      simp [List.getD, hj]

set_option maxRecDepth 100000 in
set_option maxHeartbeats 2000000 in
theorem law3_main (a : Option Addr) (cap : Nat) (a1 : Option Addr) (c1 : Nat) (x y : List Int) (i : Nat) (w : World) (hr : Row w a x) (hq : Row w a1 y) (hcap : x.length ≤ cap) (hx : x.length ≤ 524288) (hy : y.length ≤ 524288) (hi : i < x.length) :
    Calls Try.prog 3 #[.slice a x.length cap, .slice a1 y.length c1, .int .i64 i] w fun e w' => e = .returned (.bool true) ∧ Below w.heap.size w w' := by
  obtain ⟨i0, hi0, hz0, hz1, hz2⟩ := info_parts Try.info5
  have qn := q22
  have fB : decide (x.length ≤ i) = false := decide_eq_false (by omega)
  have HR := hid hr
  have HP := hid hq
  clear hr hq
  go_enter Try.func3, Try.ntmps3
  go_upto_if 31 with (go_at_call 5; go_must (refine (zzBytes5_yes _ _ _ _ _ _ _ _ (by omega)).mono ?_); rintro e w ⟨rfl, rfl⟩)
  go_cut [0] from 30 to 38 (fun s wx => ∃ a' cap', s = .slice a' x.length cap' ∧ x.length ≤ cap' ∧ Row wx a' x ∧ Below w.heap.size w wx)
  case first =>
    cases a with
    | none =>
      go_wp2
      go_meet
      case rel => exact ⟨none, cap, rfl, hcap, HR.out, Below.refl _ _⟩
    | some ad0 =>
      go_wp2_with (at_make; go_must (refine wpList_make_full _ rfl _ _ 22 rfl w.heap.size 5 i0 (.int .u8 0) 1 Try.underlying22 hi0 hz0 hz1 .i64 .i64 _ _ x.length rfl rfl rfl rfl (by rw [hz2]; omega) (by unfold maxLen; omega) (Nat.le_refl _) ?_))
      intro w1 hown hgrow
      have hb1 : Below w.heap.size w w1 := (Below.refl _ _).grown hgrow (Nat.le_refl _) (fun k hk => by cases hk)
      obtain ⟨-, ⟨h, -⟩ | ⟨g, cp, cur, hv, -, hh, -, -, hsz, -⟩⟩ := hown
      · cases h
      simp only [Value.slice.injEq, Option.some.injEq, Addr.mk.injEq] at hv
      obtain ⟨⟨rfl, -, -⟩, -, rfl⟩ := hv
      have ha1 := HR.out.later hb1
      obtain ⟨cs, hcs⟩ : ∃ cs, cs = x.map (Value.int .u8) := ⟨_, rfl⟩
      have hcl : cs.length = x.length := by rw [hcs]; simp
      have hcu : cur.toList.length = x.length := by simpa using hsz
      have HC : Hid (cs = x.map (Value.int .u8)) := hcs
      have hpos : 0 < cs.length → ∃ ad, some ad0 = some ad ∧ ∀ j v, cs[j]? = some v → w1.cell? (ad.add j) = some v := by
        intro hp
        rcases ha1 with h | ⟨b, off, hx, hc⟩
        · rw [h] at hcl; simp only [List.length_nil] at hcl; omega
        · refine ⟨ad0, rfl, fun j v hj => ?_⟩
          cases hx
          have hjl : j < x.length := by have := (List.getElem?_eq_some_iff.1 hj).1; omega
          rw [hcs] at hj
          simp only [List.getElem?_map, List.getElem?_eq_getElem hjl, Option.map_some, Option.some.injEq] at hj
          rw [Addr.add_lit, hc j hjl, ← hj]
          simp [List.getD, hjl]
      have h1c : ∀ v ∈ cs, v.oneCell' = true := by rw [hcs]; exact ints_oneCell _ _
      have hh' : w1.heap[w.heap.size]? = some (.cells cur.toList.toArray 5 (0, 0)) := by simpa using hh
      have HH := hid hh'
      have HPo := hid hpos
      have H1 := hid h1c
      have HB1 := hid hb1
      have HCL := hid hcl
      have HCU := hid hcu
      clear hcs hh' hpos h1c hh hb1 hcl hcu ha1 hgrow hsz
      go_wp2_with (refine wpList_copy_splice rfl (.tmp 35) (.tmp 36) 22 22 rfl 5 Try.underlying22 (by kernel_rfl) _ _ _ _ _ _ rfl rfl w.heap.size 0 cur.toList 5 HH.out cs (by rw [HCL.out]; simp) (fun hp => ⟨rfl, HPo.out hp⟩) (by rw [HCL.out, HCU.out]; omega) H1.out w.heap.size w HB1.out (Nat.le_refl _) ?_)
      intro w2 hg2 hb2
      go_wp2
      go_meet
      case rel =>
        refine ⟨some ⟨w.heap.size, 0, none⟩, _, rfl, Nat.le_refl _, .inr ⟨w.heap.size, 0, rfl, fun j hj => ?_⟩, hb2⟩
        rw [cell_of_row _ _ _ _ _ _ hg2.out]
        have e : splice cur.toList 0 cs = cs := by
          have e0 : cur.toList.drop cs.length = [] := List.drop_eq_nil_of_le (by rw [HCL.out, HCU.out]; omega)
          simp [splice, e0]
        rw [e, HC.out]
        simp [List.getD, hj]
  case rest =>
  obtain ⟨a', cap', rfl, hcap', hr', hb'⟩ := hcut
  have HR' := hid hr'
  have HB' := hid hb'
  clear hr' hb' HR
  have hse := SE_bounds x i hi
  have hcc := cut_cases x y i hi
  obtain ⟨r, hrr⟩ : ∃ r, r = SE x i := ⟨_, rfl⟩
  obtain ⟨W, hWW⟩ : ∃ W, W = SE (x ++ y) i := ⟨_, rfl⟩
  obtain ⟨p, hpp⟩ : ∃ p, p = SE (x ++ [34, 34]) i := ⟨_, rfl⟩
  have HRR := hid hrr
  have HWW := hid hWW
  have HPP := hid hpp
  rw [← hrr] at hse
  rw [← hrr, ← hWW, ← hpp] at hcc
  obtain ⟨s1, s2⟩ := hse
  have HCC := hid hcc
  clear hrr hWW hpp hcc
  go_wp2_with (go_at_call 6; go_must (refine (zzStringEnd_any a' _ cap' x i _ _ HR'.out rfl (by omega) hi rfl).mono ?_); rintro e w3 ⟨rfl, rfl⟩; rw [← HRR.out]; refine Hid.out ?_)
  refine hid ?_
  go_wp2_with (go_at_call 7; go_must (refine (parity_any a' _ cap' x i _ HR'.out rfl (by omega) hi).mono ?_); rintro e w3 ⟨rfl, rfl⟩; rw [← HRR.out]; refine Hid.out ?_)
  refine hid ?_
  go_wp2_with (go_at_call 8; go_must (refine (zzCat_any _ _ _ _ _ _ x y _ HR'.out (HP.out.later HB'.out) rfl rfl hx hy).mono ?_); rintro e w4 ⟨a4, rfl, r4, b4⟩; refine Hid.out ?_)
  refine hid ?_
  have HR4 := hid r4
  have HB4 := hid (HB'.out.trans (b4.mono HB'.out.size))
  have HRL := hid (HR'.out.later b4)
  clear r4 b4 HB' HR'
  go_wp2_with (go_at_call 6; go_must (refine (zzStringEnd_any a4 _ _ (x ++ y) i _ _ HR4.out (by simp) (by simp; omega) (by simp; omega) (by omega)).mono ?_); rintro e w5 ⟨rfl, rfl⟩; rw [← HWW.out]; refine Hid.out ?_)
  refine hid ?_
  go_wp2_with (refine wpList_lit (by rfl) 22 5 2 _ rfl [34, 34] Try.underlying22 (by kernel_rfl) (by kernel_rfl) rfl (by decide) (by decide) (by kernel_rfl) ?_; intro w6 a6 r6 b6; refine Hid.out ?_)
  refine hid ?_
  have HR6 := hid r6
  have HB6 := hid (HB4.out.trans (b6.mono HB4.out.size))
  have HRM := hid (HRL.out.later b6)
  clear r6 b6 HB4 HRL
  go_wp2_with (go_at_call 8; go_must (refine (zzCat_any _ _ _ _ _ _ x [34, 34] _ HRM.out HR6.out rfl rfl hx (by decide)).mono ?_); rintro e w7 ⟨a7, rfl, r7, b7⟩; refine Hid.out ?_)
  refine hid ?_
  have HR7 := hid r7
  have HB7 := hid (HB6.out.trans (b7.mono HB6.out.size))
  clear r7 b7 HB6 HRM HR6
  go_wp2_with (go_at_call 6; go_must (refine (zzStringEnd_any a7 _ _ (x ++ [34, 34]) i _ _ HR7.out (by simp) (by simp; omega) (by simp; omega) (by omega)).mono ?_); rintro e w5 ⟨rfl, rfl⟩; rw [← HPP.out]; refine Hid.out ?_)
  refine hid ?_
  have HPY := hid (HP.out.later HB7.out)
  rcases HCC.out with ⟨hp, hW⟩ | ⟨hr, hp, hW⟩ | ⟨hr, hp, hW⟩
  · subst hp
    subst hW
    go_wp2
    go_ret
    exact ⟨rfl, HB7.out⟩
  · subst hp
    subst hr
    have hG := SE_bounds ([34] ++ y) 0 (by simp)
    obtain ⟨G, hGG⟩ : ∃ G, G = SE ([34] ++ y) 0 := ⟨_, rfl⟩
    rw [← hGG] at hG hW
    have HGG := hid hGG
    clear hGG
    have g2 : G ≤ 1 + y.length := by have := hG.2; simp at this; omega
    have bW : ((W : Int) == (x.length : Int) - 1 + (G : Int)) = true := by rw [beq_iff_eq]; omega
    clear hG hW
    go_wp2_with (refine wpList_lit (by rfl) 22 5 1 _ rfl [34] Try.underlying22 (by kernel_rfl) (by kernel_rfl) rfl (by decide) (by decide) (by kernel_rfl) ?_; intro w8 a8 r8 b8; refine Hid.out ?_)
    refine hid ?_
    have HR8 := hid r8
    have HB8 := hid (HB7.out.trans (b8.mono HB7.out.size))
    have HPZ := hid (HPY.out.later b8)
    clear r8 b8 HB7 HPY
    go_wp2_with (go_at_call 8; go_must (refine (zzCat_any _ _ _ _ _ _ [34] y _ HR8.out HPZ.out rfl rfl (by decide) hy).mono ?_); rintro e w9 ⟨a9, rfl, r9, b9⟩; refine Hid.out ?_)
    refine hid ?_
    have HR9 := hid r9
    have HB9 := hid (HB8.out.trans (b9.mono HB8.out.size))
    clear r9 b9 HB8
    go_wp2_with (go_at_call 6; go_must (refine (zzStringEnd_any a9 _ _ ([34] ++ y) 0 _ _ HR9.out (by simp; omega) (by simp; omega) (by simp) (by rfl)).mono ?_); rintro e w10 ⟨rfl, rfl⟩; rw [← HGG.out]; refine Hid.out ?_)
    refine hid ?_
    go_wp2
    go_ret
    exact ⟨rfl, HB9.out⟩
  · subst hp
    subst hr
    have hG := SE_bounds ([34, 92] ++ y) 0 (by simp)
    obtain ⟨G, hGG⟩ : ∃ G, G = SE ([34, 92] ++ y) 0 := ⟨_, rfl⟩
    rw [← hGG] at hG hW
    have HGG := hid hGG
    clear hGG
    have g2 : G ≤ 2 + y.length := by have := hG.2; simp at this; omega
    have bW : ((W : Int) == (x.length : Int) - 2 + (G : Int)) = true := by rw [beq_iff_eq]; omega
    clear hG hW
    go_wp2_with (refine wpList_lit (by rfl) 22 5 2 _ rfl [34, 92] Try.underlying22 (by kernel_rfl) (by kernel_rfl) rfl (by decide) (by decide) (by kernel_rfl) ?_; intro w8 a8 r8 b8; refine Hid.out ?_)
    refine hid ?_
    have HR8 := hid r8
    have HB8 := hid (HB7.out.trans (b8.mono HB7.out.size))
    have HPZ := hid (HPY.out.later b8)
    clear r8 b8 HB7 HPY
    go_wp2_with (go_at_call 8; go_must (refine (zzCat_any _ _ _ _ _ _ [34, 92] y _ HR8.out HPZ.out rfl rfl (by decide) hy).mono ?_); rintro e w9 ⟨a9, rfl, r9, b9⟩; refine Hid.out ?_)
    refine hid ?_
    have HR9 := hid r9
    have HB9 := hid (HB8.out.trans (b9.mono HB8.out.size))
    clear r9 b9 HB8
    go_wp2_with (go_at_call 6; go_must (refine (zzStringEnd_any a9 _ _ ([34, 92] ++ y) 0 _ _ HR9.out (by simp; omega) (by simp; omega) (by simp) (by rfl)).mono ?_); rintro e w10 ⟨rfl, rfl⟩; rw [← HGG.out]; refine Hid.out ?_)
    refine hid ?_
    go_wp2
    go_ret
    exact ⟨rfl, HB9.out⟩
end Go.Proofs.Qxb6618320a
