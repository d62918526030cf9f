/-
  A REGION THAT DRAWS ITS ORDER, WHOSE OPERATIONS READ ONLY WHAT LAY THERE BEFORE AND WHOSE CALLEES LEAVE THAT ALONE (they may make memory of their own): one walk, in the text's order.
-/
import Derived.Test.Qxb6602244aWatch
import Derived.BigQuiet
namespace Go.Proofs.Qxb6602244a
open Go.ChangeShapes Go.WideShapes Go.ChangeAt Go.RowKit
set_option linter.unusedVariables false

/-- a world in which all that w1 holds still lies. -/
structure Cl (w1 : World) where
  w : World
  b : Below w1.heap.size w1 w
instance (w1 : World) : Nonempty (Cl w1) := ⟨⟨w1, Below.refl _ _⟩⟩
theorem wp_region_cl {w1 : World} {id : Nat} {Q : Exit → Act → World → Prop} {a : Act} {w : World} {l : List Oper} (hw : Below w1.heap.size w1 w) (hm : Try.prog.follows .mixedOrders = true) (hB : Region.lexB .any l.toArray = true)
    (h : wpQuiet Try.prog l.toArray (fun w' => ∃ s : Cl w1, w' = s.w) (fun a' => ∀ w', (∃ s : Cl w1, w' = s.w) → Q .normal a' w') l a) : (Code.region id l.toArray true).wp Try.prog Q a w :=
  wp_region_quiet (C := fun w' => ∃ s : Cl w1, w' = s.w) hm hB ⟨⟨_, bel_drew hw⟩, rfl⟩ (by simpa using h)
theorem Cl.call {w1 : World} {f : FuncId} {args : Array Value} {v : Value} (s : Cl w1) (h : Calls Try.prog f args s.w fun e w' => e = .returned v ∧ Below s.w.heap.size s.w w') : Calls Try.prog f args s.w fun e w' => e = .returned v ∧ ∃ t : Cl w1, w' = t.w :=
  h.mono fun _ w' ⟨he, hb⟩ => ⟨he, ⟨w', s.b.trans (hb.mono s.b.size)⟩, rfl⟩
theorem Cl.same {w1 : World} {f : FuncId} {args : Array Value} {v : Value} (s : Cl w1) (h : Calls Try.prog f args s.w fun e w' => e = .returned v ∧ w' = s.w) : Calls Try.prog f args s.w fun e w' => e = .returned v ∧ ∃ t : Cl w1, w' = t.w :=
  h.mono fun _ w' ⟨he, hb⟩ => ⟨he, s, hb⟩
theorem Cl.cells {w1 : World} {b : Nat} {cs : List Value} {t : TypeId} (h : w1.heap[b]? = some (.cells cs.toArray t (0, 0))) (s : Cl w1) (k : Nat) : s.w.cell? ⟨b, k, none⟩ = cs[k]? :=
  cell_at (by rw [s.b.block b (Array.getElem?_eq_some_iff.1 h).1]; exact h) k
theorem Cl.cell {w1 : World} {p : Addr} {v : Value} (hb : p.block < w1.heap.size) (h : w1.cell? p = some v) (s : Cl w1) : s.w.cell? p = some v := (s.b.cell hb).trans h
end Go.Proofs.Qxb6602244a
