/- The proof of the given statement: the frame is the kit's own shell, the walk is ours. -/
import Derived.Test.Qxb6618085aRowIn
import Derived.Test.Qxb6618085aLawTwo
import Derived.WalkKit
import Derived.ProofKit
import Derived.OpenShut
import Derived.ShutString
import Derived.ChangeOld
import Derived.Below
namespace Go.Proofs.Qxb6618085a.fnHexReadInTwoPiecesReadsAsOne
open Go.ChangeShapes Go.WideShapes Go.ChangeAt Go.RowKit
open Go.ChangeMaps (open_string shut_string)
set_option linter.unusedVariables false

theorem own : ownKnob Try.prog.godebug = none := by kernel_rfl
theorem laidOut : laidOutB Try.prog = true := by kernel_rfl

set_option maxHeartbeats 2000000 in
theorem walk (a0 : Option Addr) (len0 cap0 : Nat) (z0 : List Int) (a1 : Int) (a2 : Int) (a3 : Int) (w : World) (w0 : IsRow .i32 w a0 len0 cap0 z0) (w1 : (Lit.int .i64 a1).wf = true) (w2 : (Lit.int .i64 a2).wf = true) (w3 : (Lit.int .i64 a3).wf = true) :
    Calls Try.prog 6 #[.slice a0 len0 cap0, .int .i64 a1, .int .i64 a2, .int .i64 a3] w fun e w' => e = .returned (.bool true) ∧ Below w.heap.size w w' := by
  obtain ⟨l, rfl, hcap, hmx, hr, hb⟩ := w0.row
  clear w0
  by_cases g0 : l.length ≤ 1048576
  · by_cases g1 : l.length ≤ 262144 ∧ 0 ≤ a1 ∧ a1 ≤ 1048576 ∧ 0 ≤ a2 ∧ a2 ≤ 1048576 ∧ 0 ≤ a3 ∧ a3 ≤ 1048576
    · obtain ⟨h1, h2, h3, h4, h5, h6, h7⟩ := g1
      obtain ⟨p, rfl⟩ := Int.eq_ofNat_of_zero_le h2
      obtain ⟨n, rfl⟩ := Int.eq_ofNat_of_zero_le h4
      obtain ⟨m, rfl⟩ := Int.eq_ofNat_of_zero_le h6
      exact law6_main a0 cap0 l p n m w hr hcap h1 (by omega) (by omega) (by omega) hb
    · have T : ∀ (a b c d e f g : Prop), ¬ (a ∧ b ∧ c ∧ d ∧ e ∧ f ∧ g) → ¬ a ∨ (a ∧ ¬ b) ∨ (a ∧ b ∧ ¬ c) ∨ (a ∧ b ∧ c ∧ ¬ d) ∨ (a ∧ b ∧ c ∧ d ∧ ¬ e) ∨ (a ∧ b ∧ c ∧ d ∧ e ∧ ¬ f) ∨ (a ∧ b ∧ c ∧ d ∧ e ∧ f ∧ ¬ g) := by
        intro a b c d e f g h
        by_cases a <;> by_cases b <;> by_cases c <;> by_cases d <;> by_cases e <;> by_cases f <;> simp_all
      rcases T _ _ _ _ _ _ _ g1 with h | ⟨h1, h⟩ | ⟨h1, h2, h⟩ | ⟨h1, h2, h3, h⟩ | ⟨h1, h2, h3, h4, h⟩ | ⟨h1, h2, h3, h4, h5, h⟩ | ⟨h1, h2, h3, h4, h5, h6, h⟩
      all_goals
        clear T g1 hr hb w1 w2 w3
        go_enter Try.func6, Try.ntmps6
        go_wp2_with (go_at_call 23; go_must (refine (zzBytes23_yes _ _ _ _ _ _ _ (by omega)).mono ?_); rintro e w ⟨rfl, rfl⟩)
        go_ret
        exact ⟨rfl, Below.refl _ _⟩
  · clear hr hb w1 w2 w3
    go_enter Try.func6, Try.ntmps6
    go_wp2_with (go_at_call 23; go_must (refine (zzBytes23_no _ _ _ _ _ _ _ g0).mono ?_); rintro e w ⟨rfl, rfl⟩)
    go_ret
    exact ⟨rfl, Below.refl _ _⟩

set_option maxRecDepth 100000 in
theorem lifted (os : Os) (started : os.Started) (H : Type) (enc : TypeId × Value → H) :
    ReturnsInHanded {} Try.checked os 6 .any (Rows.fnHexReadInTwoPiecesReadsAsOneSpec.pre6 enc Try.prog Try.f6 Rows.fnHexReadInTwoPiecesReadsAsOneRow.domain false) (Rows.fnHexReadInTwoPiecesReadsAsOneSpec.post enc Try.prog Try.f6 false true false false) := by
  refine returnsInHanded_of_change (C := Try.checked) own started (by kernel_rfl) Try.func6
    (ChangeSpec.witness6 (enc := enc) (C := Try.checked) false ⟨#[], #[.slice none 0 0, .int .i64 0, .int .i64 0, .int .i64 0], []⟩ 8 (by kernel_rfl) (by kernel_rfl) (by kernel_rfl) (by kernel_rfl)) ?_
  intro W base args ds gs before hval0 hW hcnd _
  have hval : ∀ (j : Nat) t v, Try.f6.params[j]? = some t → args[j]? = some v → Value.okWide Try.prog W .any base t v := hval0
  have hW' := hW
  obtain ⟨p, q, hA0, hV, rfl, hfz, hnd⟩ := hW
  have hA : DataW.TrodAll enc Try.prog W 0 (fun _ => true) true Try.f6.params.toList args.toList ds p := hA0
  rw [Try.params6] at hA hval
  obtain ⟨v0, vs0, d0, ds0, p0, q0, hargs, rfl, rfl, h0, r0⟩ := trodAll_cons hA
  obtain ⟨v1, vs1, d1, ds1, p1, q1, rfl, rfl, rfl, h1, r1⟩ := trodAll_cons r0
  obtain ⟨v2, vs2, d2, ds2, p2, q2, rfl, rfl, rfl, h2, r2⟩ := trodAll_cons r1
  obtain ⟨v3, vs3, d3, ds3, p3, q3, rfl, rfl, rfl, h3, r3⟩ := trodAll_cons r2
  obtain ⟨rfl, rfl, rfl⟩ := trodAll_nil r3
  obtain rfl : args = #[v0, v1, v2, v3] := by cases args; simp_all
  obtain ⟨rfl, rfl⟩ := trodVars_none hV
  obtain ⟨a0, len0, cap0, rfl⟩ := okWide_slice Try.underlying38 (hval 0 38 v0 rfl rfl)
  have k0 := h0
  have lt0 : ∀ x ∈ p0, x.block < W.heap.size := by obtain ⟨m, hm⟩ := k0; exact DataW.trod_lt m _ _ _ hm
  obtain ⟨z0, w0⟩ : ∃ zs, IsRow .i32 W a0 len0 cap0 zs := by
    obtain ⟨fuel, hf⟩ := h0
    rcases open_ints Try.underlying38 Try.underlying21 (by kernel_rfl) hf with ⟨hcs, _⟩ | ⟨x, l, c, zs, hcs, _, hl, hm, hz, _, hcell, hwz⟩
    · simp [Value.cells] at hcs
      obtain ⟨rfl, rfl, rfl⟩ := hcs
      exact ⟨[], .inl ⟨rfl, rfl, rfl, rfl⟩⟩
    · simp [Value.cells] at hcs
      obtain ⟨rfl, rfl, rfl⟩ := hcs
      exact ⟨zs, .inr ⟨_, rfl, hl, hm, by simpa using hz, hcell, hwz⟩⟩
  obtain ⟨a1, rfl, rfl, rfl, w1⟩ := open_int Try.underlying3 (hval 1 3 v1 rfl rfl) h1
  obtain ⟨a2, rfl, rfl, rfl, w2⟩ := open_int Try.underlying3 (hval 2 3 v2 rfl rfl) h2
  obtain ⟨a3, rfl, rfl, rfl, w3⟩ := open_int Try.underlying3 (hval 3 3 v3 rfl rfl) h3
  clear hA0 hval0
  refine (walk a0 len0 cap0 z0 a1 a2 a3 W w0 w1 w2 w3).mono fun e W' ⟨he, bel⟩ => ?_
  subst he
  exact ⟨_, rfl, _, _, _, [], _, [], hW', trodAll_mk1 (shut_bool Try.underlying4 _), (trodAll_cons_mk (Below.trod laidOut (by kernel_rfl) (of_decide_eq_true (by kernel_rfl)) k0 bel lt0) (trodAll_cons_mk (shut_int Try.underlying3 w1) (trodAll_cons_mk (shut_int Try.underlying3 w2) (trodAll_cons_mk (shut_int Try.underlying3 w3) trodAll_mk0)))), rfl, bel.frame _, fun h => by cases h⟩

theorem over : Rows.fnHexReadInTwoPiecesReadsAsOneRow.holds Try.pinned (OpenSpec.ofChange Rows.fnHexReadInTwoPiecesReadsAsOneSpec) :=
  OpenClaim.holds_of_wide 6 Try.f6 rfl rfl rfl rfl rfl rfl rfl ⟨rfl, rfl, rfl, rfl, rfl⟩ rfl rfl rfl rfl rfl (by kernel_rfl) Try.func6 (by kernel_rfl)
    (of_decide_eq_true (by kernel_rfl)) (by unfold Func.isWrapper; first | (rw [if_pos (by decide +kernel)]; kernel_rfl) | (rw [if_neg (by decide +kernel)]; exact ⟨rfl, rfl⟩))
    (fun os started H enc _ => lifted os started H enc)

/-- THE STATEMENT -/
theorem proved : Rows.FnHexReadInTwoPiecesReadsAsOneSaid := over
end Go.Proofs.Qxb6618085a.fnHexReadInTwoPiecesReadsAsOne
namespace Go.Proofs.Qxb6618085a
theorem hexReadInTwoPiecesReadsAsOne_proved : Rows.FnHexReadInTwoPiecesReadsAsOneSaid := fnHexReadInTwoPiecesReadsAsOne.proved
end Go.Proofs.Qxb6618085a
