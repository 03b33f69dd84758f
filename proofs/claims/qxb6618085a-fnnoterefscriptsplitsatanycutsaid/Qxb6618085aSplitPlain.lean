import Derived.Test.Qxb6618085aLawKeep
namespace Go.Proofs.Qxb6618085a
open Go.RowKit

/-- The highest of two scripts. -/
def merge (x y : Option RR) : Option RR :=
  match x with
  | none => y
  | some h => match y with
    | none => some h
    | some g => if g.num ≤ h.num then some h else some g

theorem merge_none (x : Option RR) : merge x none = x := by cases x <;> rfl
theorem merge_step (x y : Option RR) (r : RR) : hstep (merge x y) r = merge x (hstep y r) := by
  unfold hstep
  by_cases hr : r.name = ⟨#[]⟩
  · simp only [if_pos hr]
    cases x with
    | none => rfl
    | some h =>
      cases y with
      | none =>
        simp only [merge]
        by_cases h1 : h.num < r.num
        · rw [if_pos h1, if_neg (by omega)]
        · rw [if_neg h1, if_pos (by omega)]
      | some g =>
        simp only [merge]
        by_cases h1 : g.num ≤ h.num
        · rw [if_pos h1]
          by_cases h2 : g.num < r.num
          · rw [if_pos h2]
            by_cases h3 : h.num < r.num
            · simp only [if_pos h3, if_neg (show ¬ r.num ≤ h.num by omega)]
            · simp only [if_neg h3, if_pos (show r.num ≤ h.num by omega)]
          · rw [if_neg h2]
            simp only [if_neg (show ¬ h.num < r.num by omega), if_pos h1]
        · rw [if_neg h1]
          by_cases h2 : g.num < r.num
          · simp only [if_pos h2, if_neg (show ¬ r.num ≤ h.num by omega)]
          · simp only [if_neg h2, if_neg h1]
  · simp only [if_neg hr]
theorem merge_fold (b : List RR) (x : Option RR) : ∀ y, b.foldl hstep (merge x y) = merge x (b.foldl hstep y) := by
  induction b with
  | nil => intro y; rfl
  | cons r b ih => intro y; rw [List.foldl_cons, List.foldl_cons, merge_step, ih]
theorem high_split (a b : List RR) : b.foldl hstep (HH a) = merge (HH a) (HH b) := by
  have := merge_fold b (HH a) none
  rw [merge_none] at this
  exact this

theorem look_split (a b : List RR) (s : ByteArray) (hs : s ≠ ⟨#[]⟩) : look (b.foldl nstep (NN a)) s = (look (NN a) s).or (look (NN b) s) := by
  rw [look_fold _ _ hs, look_NN b _ hs]

theorem or_none (x y : Option RR) : x.or y = none ↔ x = none ∧ y = none := by cases x <;> cases y <;> simp

theorem count_step (a b : List RR) (k : Nat) (h : k < b.length) :
    ((b.take (k + 1)).foldl nstep (NN a)).length = ((b.take k).foldl nstep (NN a)).length + (if ((b.getD k zeroRef).name ≠ ⟨#[]⟩ ∧ fwn b (b.getD k zeroRef).name = some k) ∧ look (NN a) (b.getD k zeroRef).name = none then 1 else 0) := by
  rw [NN_step b k h]
  unfold nstep
  by_cases hn : (b.getD k zeroRef).name = ⟨#[]⟩
  · rw [if_neg (fun hh => hh.1 hn), if_neg (fun hh => hh.1.1 hn)]; rfl
  · have e : look ((b.take k).foldl nstep (NN a)) (b.getD k zeroRef).name = none ↔ look (NN a) (b.getD k zeroRef).name = none ∧ fwn b (b.getD k zeroRef).name = some k := by
      rw [look_split _ _ _ hn, or_none, new_iff b k h hn]
    by_cases hc : look (NN a) (b.getD k zeroRef).name = none ∧ fwn b (b.getD k zeroRef).name = some k
    · rw [if_pos ⟨hn, e.2 hc⟩, if_pos ⟨⟨hn, hc.2⟩, hc.1⟩]; simp
    · rw [if_neg (fun hh => hc (e.1 hh.2)), if_neg (fun hh => hc ⟨hh.2, hh.1.2⟩)]; rfl

theorem fold_le (b : List RR) : ∀ L : List RR, (b.foldl nstep L).length ≤ L.length + b.length := by
  induction b with
  | nil => intro L; simp
  | cons r b ih =>
    intro L
    rw [List.foldl_cons, List.length_cons]
    have := ih (nstep L r)
    have h2 : (nstep L r).length ≤ L.length + 1 := by unfold nstep; split <;> simp
    omega

theorem vv_form (x : Option RR) : ∃ p n m t b, vv x = #[.int .i64 p, .int .i64 n, .string m, .string t, .bool b] ∧ b = x.isSome := by
  cases x
  · exact ⟨_, _, _, _, _, rfl, rfl⟩
  · exact ⟨_, _, _, _, _, rfl, rfl⟩

theorem merge_vv (x y : Option RR) (p1 n1 p2 n2 : Int) (m1 t1 m2 t2 : ByteArray) (b1 b2 : Bool) (h1 : vv x = #[.int .i64 p1, .int .i64 n1, .string m1, .string t1, .bool b1]) (h2 : vv y = #[.int .i64 p2, .int .i64 n2, .string m2, .string t2, .bool b2]) :
    vv (merge x y) = if (b1 && (!b2 || decide (n2 ≤ n1))) = true then vv x else vv y := by
  cases x with
  | none =>
    simp [vv] at h1
    obtain ⟨-, -, -, -, rfl⟩ := h1
    simp [merge]
  | some h =>
    cases y with
    | none =>
      simp [vv] at h1 h2
      obtain ⟨-, -, -, -, rfl⟩ := h1
      obtain ⟨-, -, -, -, rfl⟩ := h2
      simp [merge]
    | some g =>
      simp [vv] at h1 h2
      obtain ⟨-, rfl, -, -, rfl⟩ := h1
      obtain ⟨-, rfl, -, -, rfl⟩ := h2
      by_cases hle : g.num ≤ h.num <;> simp [merge, hle]

theorem neqX (w : World) (p n : Int) (m t : ByteArray) (b : Bool) : (binOp .neq 29 (.agg #[.int .i64 p, .int .i64 n, .string m, .string t, .bool b]) (.agg #[.int .i64 p, .int .i64 n, .string m, .string t, .bool b])).run Try.prog w = .ok (.bool false) w := by
  have h : (Op.equalIn 10000 29 (.agg #[.int .i64 p, .int .i64 n, .string m, .string t, .bool b]) (.agg #[.int .i64 p, .int .i64 n, .string m, .string t, .bool b])).run Try.prog w = .ok true w := by
    rw [show (10000 : Nat) = 9999 + 1 from rfl, run_equalIn_struct w 9999 29 _ _ (by kernel_rfl) (by kernel_rfl)]
    have e : (Try.prog.fieldsOf 29).toList.map (fun f => (f.name, f.type, f.offset)) = [("at", 3, 0), ("number", 3, 1), ("name", 9, 2), ("text", 9, 3), ("ok", 4, 4)] := by kernel_rfl
    generalize (Try.prog.fieldsOf 29).toList = L at e
    rcases L with _ | ⟨f0, _ | ⟨f1, _ | ⟨f2, _ | ⟨f3, _ | ⟨f4, _ | ⟨f5, L⟩⟩⟩⟩⟩⟩
    case cons.cons.cons.cons.cons.nil =>
      simp only [List.map_cons, List.map_nil, List.cons.injEq, Prod.mk.injEq, and_true] at e
      obtain ⟨⟨a0, b0, c0⟩, ⟨a1, b1, c1⟩, ⟨a2, b2, c2⟩, ⟨a3, b3, c3⟩, ⟨a4, b4, c4⟩⟩ := e
      go_simp
    all_goals simp at e
  rw [run_neq_struct, h]
  rfl

theorem Parser.weak {B bp : Nat} {s : PS} {w : World} (h : Parser B w bp s) : Parser 0 w bp s := by
  obtain ⟨bm, o8, o9, h1, h2, hP, hf, hh⟩ := h
  exact ⟨bm, o8, o9, Nat.zero_le _, Nat.zero_le _, hP, hf, hh⟩
end Go.Proofs.Qxb6618085a
