import Derived.Test.Qxb6617989aDoorRows
import Derived.WalkKit
import Derived.WalkSpells
import Derived.WalkLawsBesides
import Derived.Laws.CopyOwn
import Derived.Deep.QuietTactic
import Derived.BigQuiet
namespace Go.Proofs.Qxb6617989aDoor
open Go.RowKit

theorem Tryd.info5 : (Tryd.prog.info? 5).map (fun i => (i.zero, i.size, i.bytes)) = some (some (.int .u8 0), 1, 1) := by kernel_rfl

theorem hid {p : Prop} (h : p) : Hid p := h

/-- WHAT A WALK IS TOLD OF A SLICE OF BYTES: it has no element, or its address is known and each cell is known. -/
def Row (w : World) (a : Option Addr) (l : List Int) : Prop :=
  l = [] ∨ ∃ b off, a = some ⟨b, off, none⟩ ∧ ∀ i, i < l.length → w.cell? ⟨b, off + i, none⟩ = some (.int .u8 (l.getD i 0))

theorem Row.later {w w' : World} {a : Option Addr} {l : List Int} (h : Row w a l) (hb : Below w.heap.size w w') : Row w' a l := by
  rcases h with rfl | ⟨b, off, rfl, h⟩
  · exact .inl rfl
  · exact .inr ⟨b, off, rfl, fun i hi => cell_later hb (h i hi)⟩

theorem Row.drewN {w : World} {a : Option Addr} {l : List Int} (h : Row w a l) (n : Nat) : Row (w.drewN n) a l := h

theorem below_drewN' (B : Nat) (w : World) (n : Nat) : Below B w (w.drewN n) := ⟨rfl, rfl, rfl, Nat.le_refl _, fun _ _ => rfl⟩

set_option maxHeartbeats 400000 in
/-- 'equalBytes' at two slices that read as one list: true. -/
theorem equalBytes_same (a b : Option Addr) (na nb ca cb : Nat) (l : List Int) (w : World) (ha : Row w a l) (hb : Row w b l) (ea : na = l.length) (eb : nb = l.length) (hl : l.length ≤ 1048576) :
    Calls Tryd.prog 8 #[.slice a na ca, .slice b nb cb] w fun e w' => e = .returned (.bool true) ∧ ∃ n, w' = w.drewN n := by
  subst ea
  subst eb
  by_cases h0 : l = []
  · subst h0
    go_enter Tryd.func8, Tryd.ntmps8
    go_wp2
    go_loop [5] (fun i => i = .int .i64 0) (fun i => 0)
    case atStart => rfl
    case round =>
      subst hrel
      go_wp2
      go_ret
      exact ⟨rfl, 0, rfl⟩
  · rcases ha with ha | ⟨b1, o1, rfl, h1⟩
    · exact absurd ha h0
    rcases hb with hb | ⟨b2, o2, rfl, h2⟩
    · exact absurd hb h0
    clear h0
    go_enter Tryd.func8, Tryd.ntmps8
    go_wp2
    go_loopw [5] (fun i wr => ∃ k n : Nat, k ≤ l.length ∧ i = .int .i64 k ∧ wr = w.drewN n) (fun i _ => l.length - (intOf i).toNat)
    case atStart => exact ⟨0, 0, Nat.zero_le _, rfl, rfl⟩
    case round =>
      obtain ⟨k, n, hk, rfl, rfl⟩ := hrel
      by_cases hlt : k < l.length
      · have hi : (k : Int) < (l.length : Int) := by omega
        have g1 := h1 k hlt
        have g2 := h2 k hlt
        clear h1 h2
        go_wp2
        go_quiet (fail)
        go_wp2
        go_roundw
        case rel => exact ⟨k + 1, _, by omega, by go_num, rfl⟩
        case measure => simp [intOf]; omega
      · go_wp2
        go_ret
        exact ⟨rfl, n, rfl⟩

set_option maxHeartbeats 400000 in
theorem cloneBytes_any (a : Option Addr) (n c : Nat) (l : List Int) (w : World) (ha : Row w a l) (hn : n = l.length) (hl : l.length ≤ 1048576) :
    Calls Tryd.prog 6 #[.slice a n c] w fun e w' => ∃ a', e = .returned (.slice a' n n) ∧ (a' = none → n = 0) ∧ Row w' a' l ∧ Below w.heap.size w w' := by
  subst hn
  have q22 : ∀ (w : World) (a : Option Addr) (n c n' c' : Nat), (binOp .eql 22 (.slice a n c) (.slice none n' c')).run Tryd.prog w = .ok (.bool a.isNone) w := fun w a n c n' c' => Lib.run_eql_slice_nil w _ _ a n c n' c' Tryd.underlying22
  obtain ⟨i0, hi, hz0, hz1, hz2⟩ := info_parts Tryd.info5
  cases a with
  | none =>
    have h0 : l = [] := by
      rcases ha with h | ⟨_, _, h, _⟩
      · exact h
      · cases h
    subst h0
    go_enter Tryd.func6, Tryd.ntmps6
    go_wp2
    go_ret
    exact ⟨none, rfl, by simp, .inl rfl, Below.refl _ _⟩
  | some x =>
    go_enter Tryd.func6, Tryd.ntmps6
    go_wp2_with (at_make; refine wpList_make_full _ rfl _ _ 22 rfl w.heap.size 5 i0 (.int .u8 0) 1 Tryd.underlying22 hi hz0 hz1 .i64 .i64 _ _ l.length rfl rfl rfl rfl (by rw [hz2]; omega) (by unfold maxLen; omega) (Nat.le_refl _) ?_)
    intro w1 hown hgrow
    have hb1 : Below w.heap.size w w1 := (Below.refl _ _).grown hgrow (Nat.le_refl _) (fun k hk => by cases hk)
    obtain ⟨-, ⟨h, -⟩ | ⟨g, cap, cur, hv, -, hh, -, -, hsz, -⟩⟩ := hown
    · cases h
    simp only [Value.slice.injEq, Option.some.injEq, Addr.mk.injEq] at hv
    obtain ⟨⟨rfl, -, -⟩, -, rfl⟩ := hv
    have ha1 := ha.later hb1
    obtain ⟨cs, hcs⟩ : ∃ cs, cs = l.map (Value.int .u8) := ⟨_, rfl⟩
    have hcl : cs.length = l.length := by rw [hcs]; simp
    have hcu : cur.toList.length = l.length := by simpa using hsz
    have HC : Hid (cs = l.map (Value.int .u8)) := hcs
    have hpos : 0 < cs.length → ∃ ad, some x = some ad ∧ ∀ j v, cs[j]? = some v → w1.cell? (ad.add j) = some v := by
      intro hp
      rcases ha1 with h | ⟨b, off, hx, hc⟩
      · rw [h] at hcl; simp only [List.length_nil] at hcl; omega
      · refine ⟨x, rfl, fun j v hj => ?_⟩
        cases hx
        have hjl : j < l.length := by have := (List.getElem?_eq_some_iff.1 hj).1; omega
        rw [hcs] at hj
        simp only [List.getElem?_map, List.getElem?_eq_getElem hjl, Option.map_some, Option.some.injEq] at hj
        rw [Addr.add_lit, hc j hjl, ← hj]
        simp [List.getD, hjl]
    have h1c : ∀ v ∈ cs, v.oneCell' = true := by rw [hcs]; exact ints_oneCell _ _
    have hh' : w1.heap[w.heap.size]? = some (.cells cur.toList.toArray 5 (0, 0)) := by simpa using hh
    have HH := hid hh'
    have HP := hid hpos
    have H1 := hid h1c
    have HB := hid hb1
    have HCL := hid hcl
    have HCU := hid hcu
    clear hcs hh' hpos h1c hh hb1 hcl hcu ha1 hgrow hsz
    go_wp2_with (refine wpList_copy_splice rfl (.tmp 9) (.tmp 10) 22 22 rfl 5 Tryd.underlying22 (by kernel_rfl) _ _ _ _ _ _ rfl rfl w.heap.size 0 cur.toList 5 HH.out cs (by rw [HCL.out]; simp) (fun hp => ⟨rfl, HP.out hp⟩) (by rw [HCL.out, HCU.out]; omega) H1.out w.heap.size w HB.out (Nat.le_refl _) ?_)
    intro w2 hg2 hb2
    go_wp2
    go_ret
    refine ⟨some ⟨w.heap.size, 0, none⟩, rfl, fun h => (by cases h), .inr ⟨w.heap.size, 0, rfl, fun j hj => ?_⟩, hb2⟩
    rw [cell_of_row _ _ _ _ _ _ hg2.out]
    have e : splice cur.toList 0 cs = cs := by
      have e0 : cur.toList.drop cs.length = [] := List.drop_eq_nil_of_le (by rw [HCL.out, HCU.out]; omega)
      simp [splice, e0]
    rw [e, HC.out]
    simp [List.getD, hj]
end Go.Proofs.Qxb6617989aDoor
