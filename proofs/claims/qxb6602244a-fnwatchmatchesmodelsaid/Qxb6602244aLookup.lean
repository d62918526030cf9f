/-
  (*scope).lookup (41): the facts that its walk leans on.
-/
import Derived.Test.Qxb6602244aLook
import Derived.Test.Qxb6602244aPtr
import Derived.Deep.LoopGhost
namespace Go.Proofs.Qxb6602244a
open Go.ChangeShapes Go.WideShapes Go.ChangeAt Go.RowKit
set_option linter.unusedVariables false

theorem zero40 : (Try.prog.info? 40).map (fun i => i.zero) = some (some (.pointer none)) := by kernel_rfl
theorem zero4 : (Try.prog.info? 4).map (fun i => i.zero) = some (some (.bool false)) := by kernel_rfl
theorem info87 : (Try.prog.info? 87).map (fun i => i.size) = some 10 := by kernel_rfl

/-- scope i, or nil beyond the chain's end. -/
def pp (sb : Nat → Nat) (n i : Nat) : Option Addr := if i < n then some ⟨sb i, 0, none⟩ else none
theorem pp_in {sb : Nat → Nat} {n i : Nat} (h : i < n) : pp sb n i = some ⟨sb i, 0, none⟩ := by unfold pp; rw [if_pos h]
theorem pp_out {sb : Nat → Nat} {n i : Nat} (h : ¬ i < n) : pp sb n i = none := by unfold pp; rw [if_neg h]

/-- a local of scope s, as the scope's own map has it. -/
def VarAt (w : World) (s : Nat) (name : ByteArray) (lb : Nat) (bd : Bool) : Prop :=
  ∃ vm V sl, w.cell? ⟨s, 1, none⟩ = some (.map (some vm)) ∧ MapIs Value.string w vm V ∧ get V name = some (.pointer (some ⟨lb, 0, none⟩)) ∧ w.heap[lb]? = some (.cells #[sl, .bool bd, .bool false] 89 (0, 0))

theorem sc_facts {B : Nat} {w : World} {fs : List Fr} {sb ab wm : Nat → Nat} {rb : Nat → Option Nat} {rs : Nat → List (ByteArray × Int)} (hC : Chain B w fs 0 sb ab wm rb rs) (i : Nat) (hi : i < fs.length) (name : ByteArray) :
    ∃ vm dm, w.cell? ⟨sb i, 0, none⟩ = some (.pointer (pp sb fs.length (i + 1))) ∧ w.cell? ⟨sb i, 1, none⟩ = some (.map (some vm)) ∧ w.cell? ⟨sb i, 9, none⟩ = some (.map (some dm)) ∧
      (has fs[i].vn name = false → (Instr.lookup 82 (.map (some vm)) (.string name) false).run Try.prog w = .ok (.pointer none) w) ∧
      (has fs[i].vn name = true → ∃ lb, (Instr.lookup 82 (.map (some vm)) (.string name) false).run Try.prog w = .ok (.pointer (some ⟨lb, 0, none⟩)) w ∧ VarAt w (sb i) name lb (boundIn fs[i].vn fs[i].vb name)) ∧
      (Instr.lookup 83 (.map (some dm)) (.string name) false).run Try.prog w = .ok (.bool (has fs[i].dc name)) w := by
  obtain ⟨vm, dm, hsc, ⟨V, hV, hVx⟩, ⟨D, hD, hDx⟩⟩ := (hC.sc i (Nat.zero_le _) hi).ex
  unfold scCells at hsc
  have c0 := cell_at (cs := [_, _, _, _, _, _, _, _, _, _]) hsc 0
  have c1 := cell_at (cs := [_, _, _, _, _, _, _, _, _, _]) hsc 1
  have c9 := cell_at (cs := [_, _, _, _, _, _, _, _, _, _]) hsc 9
  have e0 : (if i + 1 < fs.length then ptr (sb (i + 1)) else .pointer none) = Value.pointer (pp sb fs.length (i + 1)) := by
    unfold pp ptr; split <;> rfl
  simp only [List.getElem?_cons_succ, List.getElem?_cons_zero, e0] at c0 c1 c9
  have l1 := look_map (keys_string (P := Try.prog) Try.underlying9) Try.underlying82 zero40 hV name false
  have l2 := look_map (keys_string (P := Try.prog) Try.underlying9) Try.underlying83 zero4 hD name false
  simp only [Bool.false_eq_true, if_false] at l1 l2
  refine ⟨vm, dm, c0, c1, c9, ?_, ?_, ?_⟩
  · intro h; rw [l1, (hVx name).1 h]; rfl
  · intro h
    obtain ⟨lb, sl, h1, h2⟩ := (hVx name).2 h
    exact ⟨lb, by rw [l1, h1]; rfl, vm, V, sl, c1, hV, h1, h2⟩
  · rw [l2, hDx name]
    cases has fs[i].dc name <;> rfl

theorem VarAt.rest {w w' : World} {s : Nat} {name : ByteArray} {lb : Nat} {bd : Bool} (h : VarAt w s name lb bd) (hr : Rest w w') {sc : Array Value} (hs : w.heap[s]? = some (.cells sc 87 (0, 0))) : VarAt w' s name lb bd := by
  obtain ⟨vm, V, sl, h1, h2, h3, h4⟩ := h
  refine ⟨vm, V, sl, ?_, h2.keep hr.keeps, h3, hr lb _ h4 rfl⟩
  rw [World.cell?_of_block (w := w) (a := ⟨s, 1, none⟩) ((hr s _ hs rfl).trans hs.symm)]
  exact h1

/-- scopes apart, told by their pointers. -/
theorem sc_neq {B : Nat} {w : World} {fs : List Fr} {sb ab wm : Nat → Nat} {rb : Nat → Option Nat} {rs : Nat → List (ByteArray × Int)} (hC : Chain B w fs 0 sb ab wm rb rs) (i k : Nat) (h1 : i < k) (h2 : k < fs.length) :
    (binOp .neq 31 (.pointer (some ⟨sb i, 0, none⟩)) (.pointer (some ⟨sb k, 0, none⟩))).run Try.prog w = .ok (.bool true) w := by
  obtain ⟨j, hj, hs⟩ := Option.map_eq_some_iff.1 info87
  obtain ⟨_, _, a1, _⟩ := (hC.sc i (Nat.zero_le _) (by omega)).ex
  obtain ⟨_, _, a2, _⟩ := (hC.sc k (Nat.zero_le _) h2).ex
  exact run_neq_ptr_other w Try.underlying31 hj (by rw [hs]; decide) (by intro e; injection e with e; exact hC.nesb i k (Nat.zero_le _) h1 h2 e) a1 a2
theorem sc_same (w : World) (a : Addr) : (binOp .neq 31 (.pointer (some a)) (.pointer (some a))).run Try.prog w = .ok (.bool false) w := by
  obtain ⟨j, hj, hs⟩ := Option.map_eq_some_iff.1 info87
  exact run_neq_ptr_same w a Try.underlying31 hj

/-- the reads of the scopes told by p are noted. -/
def noteP (fs : List Fr) (name : ByteArray) (p : Nat → Bool) (rs : Nat → List (ByteArray × Int)) : Nat → List (ByteArray × Int) :=
  fun m => if h : m < fs.length then (if p m = true ∧ fs[m].hw = true then rs m ++ [(name, (fs[m].nn.toNat : Int))] else rs m) else rs m
theorem noteP_none (fs : List Fr) (name : ByteArray) (rs : Nat → List (ByteArray × Int)) : noteP fs name (fun _ => false) rs = rs := by
  funext m; unfold noteP; split <;> simp
theorem note1_noteP (fs : List Fr) (name : ByteArray) (p : Nat → Bool) (rs : Nat → List (ByteArray × Int)) (i : Nat) (hp : p i = false) :
    note1 fs name i (noteP fs name p rs) = noteP fs name (fun m => p m || decide (m = i)) rs := by
  funext m
  unfold note1 noteP
  by_cases hm : m < fs.length
  · simp only [dif_pos hm]
    by_cases e : m = i
    · subst e; simp [hp]
    · simp [e]
  · simp only [dif_neg hm]
theorem noteP_len (fs : List Fr) (name : ByteArray) (p : Nat → Bool) (rs : Nat → List (ByteArray × Int)) (i : Nat) : (noteP fs name p rs i).length ≤ (rs i).length + 1 := by
  unfold noteP
  split
  · split <;> simp
  · omega
end Go.Proofs.Qxb6602244a
