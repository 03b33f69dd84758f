import Derived.Test.Qxb6618085aBytes
import Derived.Laws.StructEq
namespace Go.Proofs.Qxb6618085a
open Go.RowKit

/-- A world in which nothing that was there has turned. -/
structure Wd (W : World) where
  w : World
  h : Below W.heap.size W w
instance (W : World) : Nonempty (Wd W) := ⟨⟨W, Below.refl _ _⟩⟩

/-- A region that draws its order, whose callees lay new blocks: one walk, in the order of the text. -/
theorem region_wd {P : Program} {id : Nat} {Q : Exit → Act → World → Prop} {a : Act} {w : World} {l : List Oper} (hm : P.follows .mixedOrders = true) (hB : Region.lexB .any l.toArray = true)
    (h : wpQuiet P l.toArray (fun w' => ∃ x : Wd w, w' = x.w) (fun a' => ∀ w', (∃ x : Wd w, w' = x.w) → Q .normal a' w') l a) : (Code.region id l.toArray true).wp P Q a w :=
  wp_region_quiet (C := fun w' => ∃ x : Wd w, w' = x.w) hm hB ⟨⟨w.drew, (Below.refl _ _).drew⟩, rfl⟩ (by simpa using h)

theorem calls_wd {P : Program} {f : FuncId} {args : Array Value} {W : World} {x : Wd W} {v : Value} (h : Calls P f args x.w fun e w' => e = .returned v ∧ Below x.w.heap.size x.w w') :
    Calls P f args x.w fun e w'' => e = .returned v ∧ ∃ y : Wd W, w'' = y.w :=
  h.mono fun _ w' ⟨he, hb⟩ => ⟨he, ⟨w', x.h.trans (hb.mono x.h.size)⟩, rfl⟩

theorem equal29 (w : World) (x : Option RR) : (Op.equalIn 10000 29 (.agg (vv x)) (.agg (vv x))).run Try.prog w = .ok true w := by
  rw [show (10000 : Nat) = 9999 + 1 from rfl, run_equalIn_struct w 9999 29 _ _ (by kernel_rfl) (by kernel_rfl)]
  have e : (Try.prog.fieldsOf 29).toList.map (fun f => (f.name, f.type, f.offset)) = [("at", 3, 0), ("number", 3, 1), ("name", 9, 2), ("text", 9, 3), ("ok", 4, 4)] := by kernel_rfl
  generalize (Try.prog.fieldsOf 29).toList = L at e
  rcases L with _ | ⟨f0, _ | ⟨f1, _ | ⟨f2, _ | ⟨f3, _ | ⟨f4, _ | ⟨f5, L⟩⟩⟩⟩⟩⟩
  case cons.cons.cons.cons.cons.nil =>
    simp only [List.map_cons, List.map_nil, List.cons.injEq, Prod.mk.injEq, and_true] at e
    obtain ⟨⟨a0, b0, c0⟩, ⟨a1, b1, c1⟩, ⟨a2, b2, c2⟩, ⟨a3, b3, c3⟩, ⟨a4, b4, c4⟩⟩ := e
    cases x with
    | none =>
      simp only [vv]
      go_simp
    | some r =>
      simp only [vv]
      go_simp
  all_goals simp at e

theorem neq29 (w : World) (x : Option RR) : (binOp .neq 29 (.agg (vv x)) (.agg (vv x))).run Try.prog w = .ok (.bool false) w := by
  rw [run_neq_struct, equal29]
  rfl
end Go.Proofs.Qxb6618085a
