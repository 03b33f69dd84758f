import Derived.Test.Qxb6618085aViews
import Derived.StillTailTactics
namespace Go.Proofs.Qxb6618085a
open Go.RowKit

theorem Refs.later {w w' : World} {a : Option Addr} {rs : List RR} {B : Nat} (h : Refs w a rs) (hb : Below B w w') (ha : rs ≠ [] → ∀ x, a = some x → x.block < B) : Refs w' a rs := by
  by_cases he : rs = []
  · exact .inl he
  rcases h with h | ⟨b, off, rfl, h⟩
  · exact absurd h he
  · have hx : b < B := ha he _ rfl
    refine .inr ⟨b, off, rfl, fun i hi => ?_⟩
    obtain ⟨h0, h1, h2, h3⟩ := h i hi
    refine ⟨?_, ?_, ?_, ?_⟩
    · rw [hb.cell (p := ⟨b, _, none⟩) hx]; exact h0
    · rw [hb.cell (p := ⟨b, _, none⟩) hx]; exact h1
    · rw [hb.cell (p := ⟨b, _, none⟩) hx]; exact h2
    · rw [hb.cell (p := ⟨b, _, none⟩) hx]; exact h3

theorem Parser.drew {B bp : Nat} {s : PS} {w : World} (h : Parser B w bp s) : Parser B w.drew bp s := by
  obtain ⟨bm, o8, o9, h1, h2, hP, hf, hh⟩ := h
  exact ⟨bm, o8, o9, h1, h2, ⟨hP.row, hP.map⟩, hf.keep (fun _ _ h => h), hh.keep (fun _ _ h => h)⟩

set_option maxHeartbeats 400000 in
theorem zzNoteRef_any (B bp : Nat) (s : PS) (r : RR) (w : World) (hs : Parser B w bp s) :
    Calls Try.prog 28 #[.pointer (some ⟨bp, 0, none⟩), .int .i64 r.pos, .int .i64 r.num, .string r.name, .string r.text] w fun e w' => e = .returned (.tuple #[]) ∧ Parser B w' bp (note s r) ∧ Below B w w' := by
  have HX := hidr (noteRef_any B bp s r w hs)
  clear hs
  go_enter Try.func28, Try.ntmps28
  go_wp2_with (go_at_call 35; go_must (refine HX.out.mono ?_))
  rintro e w1 ⟨rfl, h1, h2, h3⟩
  go_wp2
  refine bodyPost_end (results_none rfl _ _ _) rfl ?_
  exact ⟨rfl, h1, h2⟩

theorem still_tail {P : Program} {id : Nat} {Q : Exit → Act → World → Prop} {a : Act} {w : World} {l : List Oper} (n : Nat) (hm : P.follows .mixedOrders = true) (hB : Region.lexTailB .any l.toArray n = true)
    (h : wpStill P l.toArray w.drew (fun a' => wpList P l.toArray Q (l.drop n) a' w.drew) (l.take n) a) : (Code.region id l.toArray true).wp P Q a w :=
  wp_region_still_tail n hm hB h

def noteL (s : PS) (rs : List RR) : PS := rs.foldl note s

set_option maxHeartbeats 1000000 in
theorem noteAll_any (B bp : Nat) (s : PS) (a : Option Addr) (cap : Nat) (rs : List RR) (w : World) (hs : Parser B w bp s) (hr : Refs w a rs) (hl : rs.length ≤ maxLen) (ha : rs ≠ [] → ∀ x, a = some x → x.block < B) :
    Calls Try.prog 11 #[.pointer (some ⟨bp, 0, none⟩), .slice a rs.length cap] w fun e w' => e = .returned (.tuple #[]) ∧ Parser B w' bp (noteL s rs) ∧ Below B w w' := by
  unfold maxLen at hl
  have HS := hidr hs
  have HR := hidr hr
  have HA := hidr ha
  clear hs hr ha
  go_enter Try.func11, Try.ntmps11
  go_wp2
  go_loopw [4] (fun x wr => ∃ k : Nat, k ≤ rs.length ∧ x = .int .i64 k ∧ Hid (Parser B wr bp (noteL s (rs.take k)) ∧ Below B w wr)) (fun x _ => rs.length - (intOf x).toNat)
  case atStart => exact ⟨0, by omega, by go_num, HS.out, Below.refl _ _⟩
  case round =>
    obtain ⟨k, hk, rfl, hP⟩ := hrel
    by_cases hlt : k < rs.length
    · rcases HR.out.later hP.out.2 HA.out with h | ⟨b, off, rfl, hc⟩
      · rw [h] at hlt; simp at hlt
      obtain ⟨c0, c1, c2, c3⟩ := hc k hlt
      have i1 : (k : Int) < (rs.length : Int) := by omega
      have ht : rs.take (k + 1) = rs.take k ++ [rs.getD k zeroRef] := by
        rw [List.take_add_one]; simp [List.getD, hlt]
      obtain ⟨r, hrk⟩ : ∃ r, r = rs.getD k zeroRef := ⟨_, rfl⟩
      rw [← hrk] at c0 c1 c2 c3 ht
      have HT := hidr ht
      clear hrk hc ht
      go_wp2
      refine still_tail 21 (by kernel_rfl) (by kernel_rfl) ?_
      simp only [List.take_succ_cons, List.take_zero, List.drop_succ_cons, List.drop_zero]
      repeat still_step
      refine wpStill_nil ?_
      go_wp2_with (go_at_call 28; go_must (refine (zzNoteRef_any B bp _ r _ hP.out.1.drew).mono ?_))
      rintro e w1 ⟨rfl, h1, h2⟩
      have HQ := hidr (show Parser B w1 bp (noteL s (rs.take (k + 1))) ∧ Below B w w1 by
        rw [HT.out, noteL, List.foldl_append]
        exact ⟨h1, hP.out.2.drew.trans h2⟩)
      clear h1 h2
      go_wp2
      go_roundw
      case rel => exact ⟨k + 1, by omega, by go_num, HQ⟩
      case measure => simp [intOf]; omega
    · obtain rfl : k = rs.length := by omega
      go_wp2
      refine bodyPost_end (results_none rfl _ _ _) rfl ?_
      have := hP.out
      rw [List.take_length] at this
      exact ⟨rfl, this⟩
end Go.Proofs.Qxb6618085a
