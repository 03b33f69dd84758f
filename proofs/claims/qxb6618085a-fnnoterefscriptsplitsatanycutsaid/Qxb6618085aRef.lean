import Derived.Test.Qxb6618085aRows
import Derived.WalkKit
import Derived.WalkSpells
import Derived.WalkLawsBesides
import Derived.Deep.QuietTactic
import Derived.BigQuiet
import Derived.BigRegion
import Derived.Deep.DeepCutAuto
import Derived.Maps.OwnSet
namespace Go.Proofs.Qxb6618085a
open Go.RowKit

theorem hidr {p : Prop} (h : p) : Hid p := h

/-- A back-reference as data. -/
structure RR where
  pos : Int
  num : Int
  name : ByteArray
  text : ByteArray

/-- Its cells. -/
def RR.cells (r : RR) : Array Value := #[.int .i64 r.pos, .int .i64 r.num, .string r.name, .string r.text]

/-- What a map's block holds that was only ever given new names. -/
def ents : Nat → List RR → List MapEntry
  | _, [] => []
  | c, r :: L => ⟨.string r.name, .agg r.cells, c⟩ :: ents (c + 1) L
def mapObj (L : List RR) : Obj := .map (ents 0 L).toArray L.length

theorem ents_length (L : List RR) : ∀ c, (ents c L).length = L.length := by
  induction L with
  | nil => intro c; rfl
  | cons r L ih => intro c; simp [ents, ih]
theorem ents_snoc (r : RR) (L : List RR) : ∀ c, ents c (L ++ [r]) = ents c L ++ [⟨.string r.name, .agg r.cells, c + L.length⟩] := by
  induction L with
  | nil => intro c; simp [ents]
  | cons x L ih => intro c; simp [ents, ih]; omega

/-- The entry under a name. -/
def look (L : List RR) (s : ByteArray) : Option RR := L.find? (fun r => s == r.name)

theorem findNow_ents (L : List RR) (s : ByteArray) : ∀ c i, Instr.findNow .string (.string s) (ents c L) i = some ((L.findIdx? (fun r => s == r.name)).bind fun j => (look L s).map fun r => (i + j, .agg r.cells)) := by
  induction L with
  | nil => intro c i; simp [ents, Instr.findNow]
  | cons x L ih =>
    intro c i
    simp only [ents, Instr.findNow, Instr.sameNow, look, List.findIdx?_cons, List.find?_cons]
    cases h : (s == x.name)
    · simp only [ih]
      simp only [Bool.false_eq_true, if_false, look]
      cases L.findIdx? (fun r => s == r.name) with
      | none => simp
      | some j =>
        have e : i + 1 + j = i + (j + 1) := by omega
        simp [e]
    · simp

theorem look_idx (L : List RR) (s : ByteArray) : (L.findIdx? (fun r => s == r.name)).isSome = (look L s).isSome := by
  unfold look
  induction L with
  | nil => rfl
  | cons x L ih =>
    simp only [List.findIdx?_cons, List.find?_cons]
    cases h : (s == x.name)
    · simp [← ih]
    · simp

theorem run_check (e : Bool) (s : ByteArray) (w : World) : (Instr.checkKey e 10000 9 (.string s)).run Try.prog w = .ok () w := by
  obtain ⟨n, hn⟩ : ∃ n, n + 1 = 10000 := ⟨9999, rfl⟩
  rw [← hn]
  simp [Instr.checkKey, run_underlying Try.underlying9]

theorem run_findKey (L : List RR) (s : ByteArray) (c : Nat) (w : World) : (Instr.findKey 9 (.string s) (ents c L)).run Try.prog w = .ok ((L.findIdx? (fun r => s == r.name)).bind fun j => (look L s).map fun r => (j, .agg r.cells)) w := by
  simp [Instr.findKey, run_underlying Try.underlying9, findNow_ents]

def zeroRef : RR := ⟨0, 0, ByteArray.empty, ByteArray.empty⟩
theorem zero69 (w : World) : (zeroValue 69).run Try.prog w = .ok (.agg zeroRef.cells) w := by kernel_rfl

theorem run_look (L : List RR) (s : ByteArray) (w : World) (bm : Nat) (hm : w.heap[bm]? = some (mapObj L)) :
    (Instr.lookup 51 (.map (some bm)) (.string s) true).run Try.prog w = .ok (.tuple #[.agg ((look L s).getD zeroRef).cells, .bool (look L s).isSome]) w := by
  have hi := look_idx L s
  simp only [Instr.lookup, run_underlying Try.underlying51, MapKept.run_getObj_map hm, Sem.run_bind, Sem.run_pure, Result.andThen_ok, run_check, run_findKey]
  cases h : look L s with
  | none =>
    rw [h] at hi
    have hj : L.findIdx? (fun r => s == r.name) = none := by
      cases hh : L.findIdx? (fun r => s == r.name) with
      | none => rfl
      | some j => rw [hh] at hi; cases hi
    rw [hj]
    simp only [Option.bind_none, zero69, Sem.run_bind, Result.andThen_ok, Sem.run_pure, if_true]
    rfl
  | some r =>
    rw [h] at hi
    obtain ⟨j, hj⟩ := Option.isSome_iff_exists.1 hi
    simp [hj]

theorem run_put (L : List RR) (r : RR) (w : World) (bm : Nat) (hm : w.heap[bm]? = some (mapObj L)) (hl : look L r.name = none) :
    (Instr.mapUpdate 51 (.map (some bm)) (.string r.name) (.agg r.cells)).run Try.prog w = .ok () (Go.ChangeMaps.setBlock w bm (mapObj (L ++ [r]))) := by
  simp only [Instr.mapUpdate, run_underlying Try.underlying51, MapKept.run_getObj_map hm, Sem.run_bind, Result.andThen_ok, run_check, run_findKey, hl]
  have hi := look_idx L r.name
  rw [hl] at hi
  have hj : L.findIdx? (fun x => r.name == x.name) = none := by
    cases hh : L.findIdx? (fun x => r.name == x.name) with
    | none => rfl
    | some j => rw [hh] at hi; cases hi
  rw [hj]
  have e : mapObj (L ++ [r]) = .map ((ents 0 L).toArray.push ⟨.string r.name, .agg r.cells, L.length⟩) (L.length + 1) := by
    simp [mapObj, ents_snoc]
  rw [e]
  simp only [Option.bind_none]
  exact MapKept.run_setObj_map _ hm

/-- Boxed references are never written again. -/
def Keep (w w' : World) : Prop := ∀ (b : Nat) (cs : Array Value), w.heap[b]? = some (Obj.cells cs 69 (0, 0)) → w'.heap[b]? = some (Obj.cells cs 69 (0, 0))
theorem Keep.refl (w : World) : Keep w w := fun _ _ h => h
theorem Keep.trans {a b c : World} (h : Keep a b) (k : Keep b c) : Keep a c := fun _ _ hh => k _ _ (h _ _ hh)

def RefAt (w : World) (b : Nat) (r : RR) : Prop := w.heap[b]? = some (.cells r.cells 69 (0, 0))
def PtrTo (w : World) (o : Option Addr) : Option RR → Prop
  | none => o = none
  | some r => ∃ b, o = some ⟨b, 0, none⟩ ∧ RefAt w b r
theorem PtrTo.keep {w w' : World} {o : Option Addr} {x : Option RR} (h : PtrTo w o x) (k : Keep w w') : PtrTo w' o x := by
  cases x with
  | none => exact h
  | some r => obtain ⟨b, e, h⟩ := h; exact ⟨b, e, k _ _ h⟩

/-- The parser's block and its map's. -/
structure PB (w : World) (bp bm : Nat) (o8 o9 : Option Addr) (L : List RR) : Prop where
  row : ∃ cs, w.heap[bp]? = some (.cells cs 56 (0, 0)) ∧ cs[8]? = some (.pointer o8) ∧ cs[9]? = some (.pointer o9) ∧ cs[10]? = some (.map (some bm))
  map : w.heap[bm]? = some (mapObj L)

theorem PB.c8 {w : World} {bp bm : Nat} {o8 o9 : Option Addr} {L : List RR} (h : PB w bp bm o8 o9 L) : w.cell? ⟨bp, 8, none⟩ = some (.pointer o8) := by
  obtain ⟨cs, hb, h8, h9, h10⟩ := h.row; simp [World.cell?, hb, h8]
theorem PB.c9 {w : World} {bp bm : Nat} {o8 o9 : Option Addr} {L : List RR} (h : PB w bp bm o8 o9 L) : w.cell? ⟨bp, 9, none⟩ = some (.pointer o9) := by
  obtain ⟨cs, hb, h8, h9, h10⟩ := h.row; simp [World.cell?, hb, h9]
theorem PB.c10 {w : World} {bp bm : Nat} {o8 o9 : Option Addr} {L : List RR} (h : PB w bp bm o8 o9 L) : w.cell? ⟨bp, 10, none⟩ = some (.map (some bm)) := by
  obtain ⟨cs, hb, h8, h9, h10⟩ := h.row; simp [World.cell?, hb, h10]
theorem PB.fz {w : World} {bp bm : Nat} {o8 o9 : Option Addr} {L : List RR} (h : PB w bp bm o8 o9 L) (i : Nat) : w.frozen? ⟨bp, i, none⟩ = false := by
  obtain ⟨cs, hb, h8, h9, h10⟩ := h.row; simp [World.frozen?, hb]
theorem lt_of_heap {w : World} {b : Nat} {o : Obj} (h : w.heap[b]? = some o) : b < w.heap.size := (Array.getElem?_eq_some_iff.1 h).1
theorem PB.lp {w : World} {bp bm : Nat} {o8 o9 : Option Addr} {L : List RR} (h : PB w bp bm o8 o9 L) : bp < w.heap.size := by
  obtain ⟨cs, hb, h8, h9, h10⟩ := h.row; exact lt_of_heap hb
theorem PB.lm {w : World} {bp bm : Nat} {o8 o9 : Option Addr} {L : List RR} (h : PB w bp bm o8 o9 L) : bm < w.heap.size := lt_of_heap h.map
theorem PB.ne {w : World} {bp bm : Nat} {o8 o9 : Option Addr} {L : List RR} (h : PB w bp bm o8 o9 L) : bp ≠ bm := by
  obtain ⟨cs, hb, h8, h9, h10⟩ := h.row
  intro e
  subst e
  rw [h.map] at hb
  cases hb

/-- It stays while other blocks turn. -/
theorem PB.stay {w w' : World} {bp bm : Nat} {o8 o9 : Option Addr} {L : List RR} (h : PB w bp bm o8 o9 L) (h1 : w'.heap[bp]? = w.heap[bp]?) (h2 : w'.heap[bm]? = w.heap[bm]?) : PB w' bp bm o8 o9 L :=
  ⟨by rw [h1]; exact h.row, by rw [h2]; exact h.map⟩
theorem PB.alloc {w : World} {bp bm : Nat} {o8 o9 : Option Addr} {L : List RR} (h : PB w bp bm o8 o9 L) (o : Obj) : PB (w.alloc o) bp bm o8 o9 L :=
  h.stay (Below.heap_alloc _ _ _ h.lp) (Below.heap_alloc _ _ _ h.lm)
theorem Keep.alloc (w : World) (o : Obj) : Keep w (w.alloc o) := fun b cs h => by rw [Below.heap_alloc _ _ _ (lt_of_heap h)]; exact h
theorem PB.set8 {w : World} {bp bm : Nat} {o8 o9 : Option Addr} {L : List RR} (h : PB w bp bm o8 o9 L) (o : Option Addr) : PB (w.setCell ⟨bp, 8, none⟩ (.pointer o)) bp bm o o9 L := by
  obtain ⟨cs, hb, h8, h9, h10⟩ := h.row
  refine ⟨⟨cs.setIfInBounds 8 (.pointer o), ?_, ?_, ?_, ?_⟩, ?_⟩
  · simp [World.setCell, Array.getElem?_modify, hb]
  · have := (Array.getElem?_eq_some_iff.1 h8).1; simp [this]
  · rw [Array.getElem?_setIfInBounds_ne (by decide)]; exact h9
  · rw [Array.getElem?_setIfInBounds_ne (by decide)]; exact h10
  · rw [Below.heap_setCell _ _ _ _ (fun e => h.ne e.symm)]; exact h.map
theorem PB.set9 {w : World} {bp bm : Nat} {o8 o9 : Option Addr} {L : List RR} (h : PB w bp bm o8 o9 L) (o : Option Addr) : PB (w.setCell ⟨bp, 9, none⟩ (.pointer o)) bp bm o8 o L := by
  obtain ⟨cs, hb, h8, h9, h10⟩ := h.row
  refine ⟨⟨cs.setIfInBounds 9 (.pointer o), ?_, ?_, ?_, ?_⟩, ?_⟩
  · simp [World.setCell, Array.getElem?_modify, hb]
  · rw [Array.getElem?_setIfInBounds_ne (by decide)]; exact h8
  · have := (Array.getElem?_eq_some_iff.1 h9).1; simp [this]
  · rw [Array.getElem?_setIfInBounds_ne (by decide)]; exact h10
  · rw [Below.heap_setCell _ _ _ _ (fun e => h.ne e.symm)]; exact h.map
theorem PB.keepSet {w : World} {bp bm : Nat} {o8 o9 : Option Addr} {L : List RR} (h : PB w bp bm o8 o9 L) (i : Nat) (v : Value) : Keep w (w.setCell ⟨bp, i, none⟩ v) := fun b cs hb => by
  obtain ⟨cs', hb', -⟩ := h.row
  rw [Below.heap_setCell _ _ _ _ (fun e => by subst e; rw [hb'] at hb; simp at hb)]
  exact hb
theorem heap_block (w : World) (b i : Nat) (o : Obj) (h : i ≠ b) : (Go.ChangeMaps.setBlock w b o).heap[i]? = w.heap[i]? := by
  simp [Go.ChangeMaps.setBlock, Ne.symm h]
theorem PB.put {w : World} {bp bm : Nat} {o8 o9 : Option Addr} {L : List RR} (h : PB w bp bm o8 o9 L) (M : List RR) : PB (Go.ChangeMaps.setBlock w bm (mapObj M)) bp bm o8 o9 M :=
  ⟨by rw [heap_block _ _ _ _ h.ne]; exact h.row, by simp [Go.ChangeMaps.setBlock, h.lm]⟩
theorem PB.keepPut {w : World} {bp bm : Nat} {o8 o9 : Option Addr} {L : List RR} (h : PB w bp bm o8 o9 L) (o : Obj) : Keep w (Go.ChangeMaps.setBlock w bm o) := fun b cs hb => by
  rw [heap_block _ _ _ _ (fun e => by subst e; rw [h.map] at hb; cases hb)]
  exact hb
theorem Below.block' {B : Nat} {a w : World} (h : Below B a w) {b : Nat} (hb : B ≤ b) (o : Obj) : Below B a (Go.ChangeMaps.setBlock w b o) :=
  h.trans ⟨rfl, rfl, rfl, by simp [Go.ChangeMaps.setBlock], fun k hk => heap_block _ _ _ _ (by omega)⟩

end Go.Proofs.Qxb6618085a
