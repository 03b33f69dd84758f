import Derived.Test.Qxb6618085aHigh
namespace Go.Proofs.Qxb6618085a
open Go.RowKit

def s0 : PS := ⟨none, none, []⟩
def named (s : ByteArray) (r : RR) : Bool := decide (r.name = s)

theorem look_eq (L : List RR) (s : ByteArray) : look L s = L.find? (named s) := by
  unfold look
  congr 1
  funext r
  unfold named
  by_cases h : r.name = s
  · rw [decide_eq_true h, (MapKept.bytes_beq _ _).2 h.symm]
  · rw [decide_eq_false h]
    cases hh : (s == r.name)
    · rfl
    · exact absurd ((MapKept.bytes_beq _ _).1 hh).symm h

theorem fwn_eq (rs : List RR) (s : ByteArray) : fwn rs s = rs.findIdx? (named s) := rfl

theorem find_idx (p : RR → Bool) (rs : List RR) : (rs.findIdx? p).map (fun i => rs.getD i zeroRef) = rs.find? p := by
  induction rs with
  | nil => rfl
  | cons x rs ih =>
    rw [List.findIdx?_cons, List.find?_cons]
    cases h : p x
    · simp only [Bool.false_eq_true, if_false]
      rw [← ih, Option.map_map]
      congr 1
    · simp

theorem idx_lt (p : RR → Bool) (rs : List RR) (i : Nat) (h : rs.findIdx? p = some i) : i < rs.length ∧ p (rs.getD i zeroRef) = true ∧ ∀ j, j < i → p (rs.getD j zeroRef) = false := by
  rw [List.findIdx?_eq_some_iff_getElem] at h
  obtain ⟨h1, h2, h3⟩ := h
  refine ⟨h1, by simpa [List.getD, h1] using h2, fun j hj => ?_⟩
  have := h3 j hj
  have hl : j < rs.length := by omega
  simpa [List.getD, hl] using this

/-! ### the first -/
theorem noteL_first (rs : List RR) : ∀ s : PS, (noteL s rs).first = s.first.or rs.head? := by
  induction rs with
  | nil => intro s; simp [noteL]
  | cons r rs ih =>
    intro s
    show (noteL (note s r) rs).first = _
    rw [ih]
    cases h : s.first <;> simp [note, h]

/-! ### the highest -/
def hstep (o : Option RR) (r : RR) : Option RR := if r.name = ⟨#[]⟩ then (match o with | none => some r | some h => if h.num < r.num then some r else some h) else o
theorem noteL_high (rs : List RR) : ∀ s : PS, (noteL s rs).high = rs.foldl hstep s.high := by
  induction rs with
  | nil => intro s; rfl
  | cons r rs ih =>
    intro s
    show (noteL (note s r) rs).high = _
    rw [ih]
    rfl
def HH (rs : List RR) : Option RR := rs.foldl hstep none

theorem HH_snoc (l : List RR) (r : RR) : HH (l ++ [r]) = hstep (HH l) r := by simp [HH, List.foldl_append]
theorem hi_snoc (l : List RR) (r : RR) : hi (l ++ [r]) = stepI (hi l) r := by simp [hi, List.foldl_append]

theorem snoc_ind {p : List RR → Prop} (h0 : p []) (hs : ∀ l r, p l → p (l ++ [r])) (l : List RR) : p l := by
  have : ∀ n, p (l.take n) := by
    intro n
    induction n with
    | zero => exact h0
    | succ n ih =>
      by_cases h : n < l.length
      · have e : l.take (n + 1) = l.take n ++ [l.getD n zeroRef] := by rw [List.take_add_one]; simp [List.getD, h]
        rw [e]; exact hs _ _ ih
      · rw [List.take_of_length_le (by omega)] at ih ⊢; exact ih
  have := this l.length
  rwa [List.take_length] at this

def HInv (rs : List RR) : Prop := hi rs = (HH rs).map (·.num) ∧
    (match HH rs with
      | none => ∀ x ∈ rs, x.name ≠ ⟨#[]⟩
      | some h => rs.find? (isTop h.num) = some h ∧ ∀ x ∈ rs, x.name = ⟨#[]⟩ → x.num ≤ h.num)

theorem HH_inv (rs : List RR) : HInv rs := by
  refine snoc_ind (p := HInv) ⟨rfl, fun x hx => by cases hx⟩ (fun l r ih => ?_) rs
  obtain ⟨i1, i2⟩ := ih
  unfold HInv
  rw [HH_snoc, hi_snoc, i1]
  by_cases hr : r.name = ⟨#[]⟩
  · cases hl : HH l with
    | none =>
      rw [hl] at i2
      simp only [hstep, stepI, if_pos hr, Option.map_none, Option.map_some, true_and]
      refine ⟨?_, fun x hx _ => ?_⟩
      · have : l.find? (isTop r.num) = none := by
          rw [List.find?_eq_none]
          intro x hx
          simp [isTop, i2 x hx]
        rw [List.find?_append, this]
        simp [isTop, hr]
      · rw [List.mem_append, List.mem_singleton] at hx
        rcases hx with hx | rfl
        · exact absurd ‹_› (i2 x hx)
        · exact Int.le_refl _
    | some h =>
      rw [hl] at i2
      obtain ⟨j1, j2⟩ := i2
      simp only [hstep, stepI, if_pos hr, Option.map_some]
      by_cases hlt : h.num < r.num
      · simp only [if_pos hlt, Option.map_some, true_and]
        refine ⟨?_, fun x hx hn => ?_⟩
        · have : l.find? (isTop r.num) = none := by
            rw [List.find?_eq_none]
            intro x hx
            simp only [isTop, decide_eq_true_eq, not_and]
            intro hn
            have := j2 x hx hn
            omega
          rw [List.find?_append, this]
          simp [isTop, hr]
        · rw [List.mem_append, List.mem_singleton] at hx
          rcases hx with hx | rfl
          · have := j2 x hx hn; omega
          · exact Int.le_refl _
      · simp only [if_neg hlt, Option.map_some, true_and]
        refine ⟨?_, fun x hx hn => ?_⟩
        · rw [List.find?_append, j1]; rfl
        · rw [List.mem_append, List.mem_singleton] at hx
          rcases hx with hx | rfl
          · exact j2 x hx hn
          · omega
  · simp only [hstep, stepI, if_neg hr, true_and]
    cases hl : HH l with
    | none =>
      rw [hl] at i2
      intro x hx
      rw [List.mem_append, List.mem_singleton] at hx
      rcases hx with hx | rfl
      · exact i2 x hx
      · exact hr
    | some h =>
      rw [hl] at i2
      obtain ⟨j1, j2⟩ := i2
      refine ⟨by rw [List.find?_append, j1]; rfl, fun x hx hn => ?_⟩
      rw [List.mem_append, List.mem_singleton] at hx
      rcases hx with hx | rfl
      · exact j2 x hx hn
      · exact absurd hn hr

theorem high_idx (rs : List RR) : HH rs = (hIdx rs).map (fun i => rs.getD i zeroRef) := by
  obtain ⟨h1, h2⟩ := HH_inv rs
  unfold hIdx
  rw [h1]
  cases h : HH rs with
  | none => rfl
  | some x =>
    rw [h] at h2
    show some x = (rs.findIdx? (isTop x.num)).map _
    rw [find_idx, h2.1]

theorem hIdx_lt (rs : List RR) (i : Nat) (h : hIdx rs = some i) : i < rs.length := by
  unfold hIdx at h
  cases hh : hi rs with
  | none => rw [hh] at h; cases h
  | some t => rw [hh] at h; exact (idx_lt _ _ _ h).1

/-! ### the named -/
def nstep (L : List RR) (r : RR) : List RR := if r.name ≠ ⟨#[]⟩ ∧ look L r.name = none then L ++ [r] else L
theorem noteL_named (rs : List RR) : ∀ s : PS, (noteL s rs).named = rs.foldl nstep s.named := by
  induction rs with
  | nil => intro s; rfl
  | cons r rs ih =>
    intro s
    show (noteL (note s r) rs).named = _
    rw [ih]
    rfl
def NN (rs : List RR) : List RR := rs.foldl nstep []

theorem look_nstep (L : List RR) (r : RR) (s : ByteArray) (hs : s ≠ ⟨#[]⟩) : look (nstep L r) s = (look L s).or (if named s r then some r else none) := by
  rw [look_eq, look_eq]
  unfold nstep
  rw [look_eq]
  by_cases hc : r.name ≠ ⟨#[]⟩ ∧ L.find? (named r.name) = none
  · rw [if_pos hc, List.find?_append]
    congr 1
    cases h : named s r <;> simp [h]
  · rw [if_neg hc]
    cases h : named s r
    · simp
    · have e : r.name = s := by simpa [named] using h
      subst e
      have : L.find? (named r.name) ≠ none := fun hn => hc ⟨hs, hn⟩
      cases hh : L.find? (named r.name) with
      | none => exact absurd hh this
      | some x => rfl

theorem look_fold (b : List RR) (s : ByteArray) (hs : s ≠ ⟨#[]⟩) : ∀ L, look (b.foldl nstep L) s = (look L s).or (b.find? (named s)) := by
  induction b with
  | nil => intro L; simp
  | cons r b ih =>
    intro L
    rw [List.foldl_cons, ih, look_nstep _ _ _ hs, List.find?_cons]
    cases h : named s r <;> cases look L s <;> simp

theorem look_NN (rs : List RR) (s : ByteArray) (hs : s ≠ ⟨#[]⟩) : look (NN rs) s = rs.find? (named s) := by
  rw [NN, look_fold _ _ hs]; simp [look]

theorem NN_step (rs : List RR) (k : Nat) (h : k < rs.length) (L : List RR) : (rs.take (k + 1)).foldl nstep L = nstep ((rs.take k).foldl nstep L) (rs.getD k zeroRef) := by
  have ht : rs.take (k + 1) = rs.take k ++ [rs.getD k zeroRef] := by
    rw [List.take_add_one]; simp [List.getD, h]
  rw [ht, List.foldl_append]
  rfl

theorem find_take (p : RR → Bool) (rs : List RR) (k : Nat) (hk : k ≤ rs.length) : (rs.take k).find? p = none ↔ ∀ j, j < k → p (rs.getD j zeroRef) = false := by
  rw [List.find?_eq_none]
  constructor
  · intro h j hj
    have hjl : j < rs.length := by omega
    have := h rs[j] (by rw [List.mem_take_iff_getElem]; exact ⟨j, by omega, rfl⟩)
    simpa [List.getD, hjl] using this
  · intro h x hx
    obtain ⟨j, hj, rfl⟩ := List.getElem_of_mem hx
    rw [List.length_take] at hj
    have hjl : j < rs.length := by omega
    have := h j (by omega)
    rw [List.getElem_take]
    simpa [List.getD, hjl] using this

/-- A name is new at k exactly where its first index is k. -/
theorem new_iff (rs : List RR) (k : Nat) (h : k < rs.length) (hn : (rs.getD k zeroRef).name ≠ ⟨#[]⟩) : look (NN (rs.take k)) (rs.getD k zeroRef).name = none ↔ fwn rs (rs.getD k zeroRef).name = some k := by
  rw [look_NN _ _ hn, find_take _ _ _ (by omega)]
  constructor
  · intro hh
    exact fwn_found rs _ k h rfl (fun j hj e => by have := hh j hj; unfold named at this; rw [decide_eq_true e] at this; cases this)
  · intro hh
    rw [fwn_eq] at hh
    exact (idx_lt _ _ _ hh).2.2

/-- How many names the first k bear. -/
theorem NN_len (rs : List RR) (k : Nat) (h : k < rs.length) : (NN (rs.take (k + 1))).length = (NN (rs.take k)).length + (if (rs.getD k zeroRef).name ≠ ⟨#[]⟩ ∧ fwn rs (rs.getD k zeroRef).name = some k then 1 else 0) := by
  rw [NN, NN_step rs k h]
  show (nstep (NN (rs.take k)) _).length = _
  unfold nstep
  by_cases hn : (rs.getD k zeroRef).name = ⟨#[]⟩
  · rw [if_neg (fun hh => hh.1 hn), if_neg (fun hh => hh.1 hn)]; rfl
  · by_cases hl : fwn rs (rs.getD k zeroRef).name = some k
    · rw [if_pos ⟨hn, (new_iff rs k h hn).2 hl⟩, if_pos ⟨hn, hl⟩]; simp
    · rw [if_neg (fun hh => hl ((new_iff rs k h hn).1 hh.2)), if_neg (fun hh => hl hh.2)]; simp

/-- Where a name stands at k its first index is there, and the named bear that reference. -/
theorem named_at (rs : List RR) (k : Nat) (h : k < rs.length) (hn : (rs.getD k zeroRef).name ≠ ⟨#[]⟩) : ∃ j, fwn rs (rs.getD k zeroRef).name = some j ∧ j < rs.length ∧ look (NN rs) (rs.getD k zeroRef).name = some (rs.getD j zeroRef) := by
  cases hf : fwn rs (rs.getD k zeroRef).name with
  | none =>
    rw [fwn_eq, List.findIdx?_eq_none_iff] at hf
    have := hf rs[k] (List.getElem_mem h)
    simp [named, List.getD, h] at this
  | some j =>
    rw [look_NN _ _ hn, ← find_idx, ← fwn_eq, hf]
    exact ⟨j, rfl, (idx_lt _ _ _ (by rw [← fwn_eq]; exact hf)).1, rfl⟩
end Go.Proofs.Qxb6618085a
