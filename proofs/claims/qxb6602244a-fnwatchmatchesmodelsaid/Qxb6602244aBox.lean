/-
  'in := zzWatchInB1{..}': eight cells in a block of their own.
-/
import Derived.Test.Qxb6602244aNew
namespace Go.Proofs.Qxb6602244a
open Go.ChangeShapes Go.WideShapes Go.ChangeAt Go.RowKit
set_option linter.unusedVariables false
set_option linter.unusedSimpArgs false

/-! ### 'in := zzWatchInB1{..}' -/
theorem build59 (w : World) (a1 a2 a3 a4 a5 a6 : Option Addr) (n1 n2 n3 n4 n5 n6 c1 c2 c3 c4 c5 c6 : Nat) (i p : Int) :
    (Instr.build 59 #[(0, .slice a1 n1 c1), (1, .slice a2 n2 c2), (2, .slice a3 n3 c3), (3, .slice a4 n4 c4), (4, .slice a5 n5 c5), (5, .slice a6 n6 c6), (6, .int .i64 i), (7, .int .i64 p)]).run Try.prog w
      = .ok (.agg #[.slice a1 n1 c1, .slice a2 n2 c2, .slice a3 n3 c3, .slice a4 n4 c4, .slice a5 n5 c5, .slice a6 n6 c6, .int .i64 i, .int .i64 p]) w := by kernel_rfl
theorem alloc59 (w : World) : (Instr.alloc 59 true (.tuple #[])).run Try.prog w = .ok (.pointer (some ⟨w.heap.size, 0, none⟩)) (w.alloc (.cells #[.slice none 0 0, .slice none 0 0, .slice none 0 0, .slice none 0 0, .slice none 0 0, .slice none 0 0, .int .i64 0, .int .i64 0] 59)) := by kernel_rfl
theorem store59 (w : World) (a1 a2 a3 a4 a5 a6 : Option Addr) (n1 n2 n3 n4 n5 n6 c1 c2 c3 c4 c5 c6 : Nat) (i p : Int) :
    (Instr.storeAt 59 (.pointer (some ⟨w.heap.size, 0, none⟩)) (.agg #[.slice a1 n1 c1, .slice a2 n2 c2, .slice a3 n3 c3, .slice a4 n4 c4, .slice a5 n5 c5, .slice a6 n6 c6, .int .i64 i, .int .i64 p])).run Try.prog (w.alloc (.cells #[.slice none 0 0, .slice none 0 0, .slice none 0 0, .slice none 0 0, .slice none 0 0, .slice none 0 0, .int .i64 0, .int .i64 0] 59))
      = .ok () (w.alloc (.cells #[.slice a1 n1 c1, .slice a2 n2 c2, .slice a3 n3 c3, .slice a4 n4 c4, .slice a5 n5 c5, .slice a6 n6 c6, .int .i64 i, .int .i64 p] 59)) := by go_simp
section
variable {w : World} {ops : Array Oper} {rest : List Oper} {o : Oper} {a : Act} {Q : Exit → Act → World → Prop}
theorem wpList_build59 (hg : o.guard = none) (x0 x1 x2 x3 x4 x5 x6 x7 : Operand) (ho : o.op = .build 59 #[(0, x0), (1, x1), (2, x2), (3, x3), (4, x4), (5, x5), (6, x6), (7, x7)])
    (a1 a2 a3 a4 a5 a6 : Option Addr) (n1 n2 n3 n4 n5 n6 c1 c2 c3 c4 c5 c6 : Nat) (i p : Int)
    (e0 : a.eval x0 = .slice a1 n1 c1) (e1 : a.eval x1 = .slice a2 n2 c2) (e2 : a.eval x2 = .slice a3 n3 c3) (e3 : a.eval x3 = .slice a4 n4 c4) (e4 : a.eval x4 = .slice a5 n5 c5) (e5 : a.eval x5 = .slice a6 n6 c6) (e6 : a.eval x6 = .int .i64 i) (e7 : a.eval x7 = .int .i64 p)
    (h : wpList Try.prog ops Q rest (a.put o.dst (.agg #[.slice a1 n1 c1, .slice a2 n2 c2, .slice a3 n3 c3, .slice a4 n4 c4, .slice a5 n5 c5, .slice a6 n6 c6, .int .i64 i, .int .i64 p])) w) : wpList Try.prog ops Q (o :: rest) a w :=
  wpList_plain hg fun _ hK => by
    unfold Oper.wp execOp
    simp only [ho, List.map_toArray, List.map_cons, List.map_nil, e0, e1, e2, e3, e4, e5, e6, e7, build59, Sem.run_bind, Sem.run_pure, Result.andThen_ok]
    exact hK _ _ h
theorem wpList_alloc59 (hg : o.guard = none) (ho : o.op = .alloc 59) (h : wpList Try.prog ops Q rest (a.put o.dst (.pointer (some ⟨w.heap.size, 0, none⟩))) (w.alloc (.cells #[.slice none 0 0, .slice none 0 0, .slice none 0 0, .slice none 0 0, .slice none 0 0, .slice none 0 0, .int .i64 0, .int .i64 0] 59))) : wpList Try.prog ops Q (o :: rest) a w :=
  wpList_plain hg fun _ hK => by
    unfold Oper.wp execOp
    simp only [ho, alloc59, Sem.run_bind, Sem.run_pure, Result.andThen_ok]
    exact hK _ _ h
theorem wpList_store59 (hg : o.guard = none) (x y : Operand) (ho : o.op = .store 59 x y) (a1 a2 a3 a4 a5 a6 : Option Addr) (n1 n2 n3 n4 n5 n6 c1 c2 c3 c4 c5 c6 : Nat) (i p : Int)
    (hx : a.eval x = .pointer (some ⟨w.heap.size, 0, none⟩)) (hy : a.eval y = .agg #[.slice a1 n1 c1, .slice a2 n2 c2, .slice a3 n3 c3, .slice a4 n4 c4, .slice a5 n5 c5, .slice a6 n6 c6, .int .i64 i, .int .i64 p])
    (h : wpList Try.prog ops Q rest (a.put o.dst undef) (w.alloc (.cells #[.slice a1 n1 c1, .slice a2 n2 c2, .slice a3 n3 c3, .slice a4 n4 c4, .slice a5 n5 c5, .slice a6 n6 c6, .int .i64 i, .int .i64 p] 59))) : wpList Try.prog ops Q (o :: rest) a (w.alloc (.cells #[.slice none 0 0, .slice none 0 0, .slice none 0 0, .slice none 0 0, .slice none 0 0, .slice none 0 0, .int .i64 0, .int .i64 0] 59)) :=
  wpList_plain hg fun _ hK => by
    unfold Oper.wp execOp
    simp only [ho, hx, hy, store59, Sem.run_bind, Sem.run_pure, Result.andThen_ok]
    exact hK _ _ h
end
theorem load59 (w : World) (q : Nat) (a1 a2 a3 a4 a5 a6 : Option Addr) (n1 n2 n3 n4 n5 n6 c1 c2 c3 c4 c5 c6 : Nat) (i p : Int)
    (hq : w.heap[q]? = some (.cells #[.slice a1 n1 c1, .slice a2 n2 c2, .slice a3 n3 c3, .slice a4 n4 c4, .slice a5 n5 c5, .slice a6 n6 c6, .int .i64 i, .int .i64 p] 59 (0, 0))) :
    (Instr.loadAt 59 (.pointer (some ⟨q, 0, none⟩))).run Try.prog w = .ok (.agg #[.slice a1 n1 c1, .slice a2 n2 c2, .slice a3 n3 c3, .slice a4 n4 c4, .slice a5 n5 c5, .slice a6 n6 c6, .int .i64 i, .int .i64 p]) w := by
  have k : ∀ j v, #[Value.slice a1 n1 c1, .slice a2 n2 c2, .slice a3 n3 c3, .slice a4 n4 c4, .slice a5 n5 c5, .slice a6 n6 c6, .int .i64 i, .int .i64 p][j]? = some v → w.cell? ⟨q, j, none⟩ = some v := by
    intro j v hj; simp only [World.cell?, hq]; exact hj
  have k0 := k 0 _ rfl
  have k1 := k 1 _ rfl
  have k2 := k 2 _ rfl
  have k3 := k 3 _ rfl
  have k4 := k 4 _ rfl
  have k5 := k 5 _ rfl
  have k6 := k 6 _ rfl
  have k7 := k 7 _ rfl
  clear k hq
  go_simp
/-- the load, one step. -/
theorem wpList_unbox {w : World} {ops : Array Oper} {rest : List Oper} {o : Oper} {a : Act} {Q : Exit → Act → World → Prop} (hg : o.guard = none) (x : Operand) (ho : o.op = .load 59 x)
    (q : Nat) (v : Value) (hx : a.eval x = .pointer (some ⟨q, 0, none⟩)) (hr : (Instr.loadAt 59 (.pointer (some ⟨q, 0, none⟩))).run Try.prog w = .ok v w)
    (h : wpList Try.prog ops Q rest (a.put o.dst v) w) : wpList Try.prog ops Q (o :: rest) a w :=
  wpList_plain hg fun _ hK => by
    unfold Oper.wp execOp
    simp only [ho, hx, hr, Sem.run_bind, Sem.run_pure, Result.andThen_ok]
    exact hK _ _ h
end Go.Proofs.Qxb6602244a
