import Derived.Test.Qxb6617989aDoorFill
import Derived.Lib.AppendIntMem
import Derived.Lib.ItoaLen
namespace Go.Proofs.Qxb6617989aDoor
open Go.RowKit

/-- The text 'txt' lies in a row of the call's own (made since w0); below it nothing has turned. -/
def St (w0 : World) (v : Value) (wx : World) (txt : List Int) : Prop :=
  wx.ownsRow w0.heap.size 5 1 v txt.length (txt.map (Value.int .u8)) ∧ Below w0.heap.size w0 wx

theorem St.cell {w0 wx : World} {v : Value} {txt : List Int} (h : St w0 v wx txt) {a : Addr} {u : Value} (hc : w0.cell? a = some u) : wx.cell? a = some u := cell_later h.2 hc
theorem St.size {w0 wx : World} {v : Value} {txt : List Int} (h : St w0 v wx txt) : w0.heap.size ≤ wx.heap.size := h.2.size

theorem row_cells {w : World} {b off : Nat} {l : List Int} (hc : ∀ i, i < l.length → w.cell? ⟨b, off + i, none⟩ = some (.int .u8 (l.getD i 0))) :
    ∀ j u, (l.map (Value.int .u8))[j]? = some u → w.cell? ((⟨b, off, none⟩ : Addr).add j) = some u := by
  intro j u hj
  have hjl : j < l.length := by have := (List.getElem?_eq_some_iff.1 hj).1; simpa using this
  simp only [List.getElem?_map, List.getElem?_eq_getElem hjl, Option.map_some, Option.some.injEq] at hj
  rw [Addr.add_lit, hc j hjl, ← hj]
  simp [List.getD, hjl]

/-- 'append(dst, c)' onto such a row. -/
theorem wpList_push {ops : Array Oper} {rest : List Oper} {o : Oper} {a : Act} {Q : Exit → Act → World → Prop} (hgd : o.guard = none) (s x : Operand)
    (ho : o.op = .call { callee := .builtin .append, args := #[s, x], argTypes := #[22, 22] }) (w0 wx : World) (v : Value) (txt : List Int) (c : Int) (t : TypeId)
    (hs : a.eval s = v) (hx : a.eval x = .slice (some ⟨wx.heap.size, 0, none⟩) 1 1) (h : St w0 v wx txt) (hlim : txt.length + 1 ≤ 1048576)
    (hK : ∀ v' w', St w0 v' w' (txt ++ [c]) → wpList Tryd.prog ops Q rest (a.put o.dst v') w') :
    wpList Tryd.prog ops Q (o :: rest) a (wx.alloc (.cells #[.int .u8 c] t)) := by
  obtain ⟨i0, hi, hz0, hz1, hz2⟩ := info_parts Tryd.info5
  obtain ⟨hown, hb⟩ := h
  have hbs := hb.size
  refine wpList_append_own _ hgd s x 22 ho w0.heap.size 5 i0 (.int .u8 0) 1 1 Tryd.underlying22 hi hz0 hz1 hz2 rfl (by decide) v txt.length _ hs (hown.alloc _) ⟨wx.heap.size, 0, none⟩ 1 1 [.int .u8 c] hx rfl (cell_one_new _ _ _) (by intro u hu; simp at hu; subst hu; rfl) (by unfold maxLen; omega) (by omega) (by simp; omega) ?_
  intro v' w1 hown' hgrow _
  refine hK v' w1 ⟨?_, (hb.alloc (by omega) _).grown hgrow (by simp; omega) (fun q hq => (hown.lt q hq).1)⟩
  simpa using hown'

/-- 'append(dst, src...)' onto such a row, src not empty. -/
theorem wpList_join {ops : Array Oper} {rest : List Oper} {o : Oper} {a : Act} {Q : Exit → Act → World → Prop} (hgd : o.guard = none) (s x : Operand)
    (ho : o.op = .call { callee := .builtin .append, args := #[s, x], argTypes := #[22, 22] }) (w0 wx : World) (v : Value) (txt : List Int) (b off m cm : Nat) (l : List Int)
    (hs : a.eval s = v) (hx : a.eval x = .slice (some ⟨b, off, none⟩) m cm) (hm : m = l.length) (h : St w0 v wx txt) (hlim : txt.length + l.length ≤ 1048576)
    (hc : ∀ i, i < l.length → wx.cell? ⟨b, off + i, none⟩ = some (.int .u8 (l.getD i 0)))
    (hK : ∀ v' w', St w0 v' w' (txt ++ l) → wpList Tryd.prog ops Q rest (a.put o.dst v') w') :
    wpList Tryd.prog ops Q (o :: rest) a wx := by
  obtain ⟨i0, hi, hz0, hz1, hz2⟩ := info_parts Tryd.info5
  obtain ⟨hown, hb⟩ := h
  have hbs := hb.size
  subst hm
  refine wpList_append_own _ hgd s x 22 ho w0.heap.size 5 i0 (.int .u8 0) 1 1 Tryd.underlying22 hi hz0 hz1 hz2 rfl (by decide) v txt.length _ hs hown ⟨b, off, none⟩ l.length cm (l.map (Value.int .u8)) hx (by simp) (row_cells hc) (ints_oneCell _ _) (by unfold maxLen; omega) (by omega) (by omega) ?_
  intro v' w1 hown' hgrow _
  refine hK v' w1 ⟨?_, hb.grown hgrow (by omega) (fun q hq => (hown.lt q hq).1)⟩
  simpa using hown'

/-- 'append(dst, c)' onto a full slice that was there: a new row. -/
theorem wpList_first {ops : Array Oper} {rest : List Oper} {o : Oper} {a : Act} {Q : Exit → Act → World → Prop} (hgd : o.guard = none) (s x : Operand)
    (ho : o.op = .call { callee := .builtin .append, args := #[s, x], argTypes := #[22, 22] }) (w0 : World) (ao : Option Addr) (n : Nat) (l : List Int) (c : Int) (t : TypeId) (k : Nat)
    (hs : a.eval s = .slice ao n n) (hx : a.eval x = .slice (some ⟨k, 0, none⟩) 1 1) (hk : k = w0.heap.size) (hn : n = l.length) (hnone : ao = none → n = 0) (hrow : Row w0 ao l) (hlim : l.length + 1 ≤ 1048576)
    (hK : ∀ v' w', St w0 v' w' (l ++ [c]) → wpList Tryd.prog ops Q rest (a.put o.dst v') w') :
    wpList Tryd.prog ops Q (o :: rest) a (w0.alloc (.cells #[.int .u8 c] t)) := by
  obtain ⟨i0, hi, hz0, hz1, hz2⟩ := info_parts Tryd.info5
  subst hn
  subst hk
  refine wpList_append_grows _ hgd s x 22 ho 5 i0 (.int .u8 0) 1 1 Tryd.underlying22 hi hz0 hz1 hz2 rfl (by decide) ao l.length l.length (l.map (Value.int .u8)) hs (fun h => ⟨hnone h, hnone h⟩) (by simp) ?_ ⟨w0.heap.size, 0, none⟩ 1 1 [.int .u8 c] hx rfl (cell_one_new _ _ _) (by intro u hu; simp at hu; subst hu; rfl) (by omega) (by unfold maxLen; omega) (by omega) ?_
  · intro bb hbb j u hj
    rcases hrow with rfl | ⟨b, off, hab, hc⟩
    · simp at hj
    · rw [hab] at hbb
      cases hbb
      exact row_cells (w := w0.alloc (.cells #[.int .u8 c] t)) (fun i hi => cell_later ((Below.refl _ _).alloc (Nat.le_refl _) _) (hc i hi)) j u hj
  · intro v' w1 hown' hgrow
    refine hK v' w1 ⟨?_, ((Below.refl _ _).alloc (Nat.le_refl _) _).grown hgrow (by simp) (fun q hq => by cases hq)⟩
    obtain ⟨e1, e2 | ⟨g, cap, cur, r1, r2, r3⟩⟩ := hown'
    · exact ⟨by simp, .inl ⟨e2.1, by have := e2.2; simp at this⟩⟩
    · refine ⟨by simp, .inr ⟨g, cap, cur, by simpa using r1, by simp at r2; omega, ?_⟩⟩
      simpa using r3
end Go.Proofs.Qxb6617989aDoor
