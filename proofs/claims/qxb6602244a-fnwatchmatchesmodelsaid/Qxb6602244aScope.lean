/-
  A scope IN MEMORY: its maps, its locals: what is said of it, and what leaves it alone.
-/
import Derived.Test.Qxb6602244aSetReads
namespace Go.Proofs.Qxb6602244a
open Go.ChangeShapes Go.WideShapes Go.ChangeAt Go.RowKit
set_option linter.unusedVariables false

/-- the locals: one block each; the last entry of a name decides. -/
def VarsOk (w : World) (vm : Nat) (ns : List ByteArray) (bs : List Bool) : Prop :=
  ∃ V, MapIs Value.string w vm V ∧ ∀ x, (has ns x = false → get V x = none) ∧
    (has ns x = true → ∃ lb sl, get V x = some (.pointer (some ⟨lb, 0, none⟩)) ∧ w.heap[lb]? = some (.cells #[sl, .bool (boundIn ns bs x), .bool false] 89 (0, 0)))
def DecOk (w : World) (dm : Nat) (dn : List ByteArray) : Prop :=
  ∃ D, MapIs Value.string w dm D ∧ ∀ x, get D x = if has dn x then some (.bool true) else none

/-- the scope's own cells. -/
def scCells (ov : Value) (vm wm dm : Nat) (wk : Value) : Array Value :=
  #[ov, .map (some vm), .slice none 0 0, .slice none 0 0, .map none, .map (some wm), wk, .slice none 0 0, .map none, .map (some dm)]

structure Sc (w : World) (sb : Nat) (ov : Value) (ns : List ByteArray) (bs : List Bool) (dn : List ByteArray) (wk : Value) (wm : Nat) : Prop where
  ex : ∃ vm dm, w.heap[sb]? = some (.cells (scCells ov vm wm dm wk) 87 (0, 0)) ∧ VarsOk w vm ns bs ∧ DecOk w dm dn

/-- what a scope is made of. -/
def stat : Obj → Bool
  | .map _ _ => true
  | .cells _ t _ => t == 87 || t == 89
  | _ => false
def Keeps (w w' : World) : Prop := ∀ (k : Nat) (o : Obj), w.heap[k]? = some o → stat o = true → w'.heap[k]? = some o

theorem Keeps.refl (w : World) : Keeps w w := fun _ _ h _ => h
theorem Keeps.trans {a b c : World} (h : Keeps a b) (k : Keeps b c) : Keeps a c := fun i o hi hs => k i o (h i o hi hs) hs
theorem Keeps.below {w w' : World} (h : Below w.heap.size w w') : Keeps w w' := fun k o hk _ => by
  rw [h.block k (Array.getElem?_eq_some_iff.1 hk).1]; exact hk
theorem Keeps.chg {w w' : World} {ab : Nat} {rb : Option Nat} {ca : Array Value} (h : Chg w w' ab rb) (ha : w.heap[ab]? = some (.cells ca 71 (0, 0))) (hr : ∀ q, rb = some q → ∃ cr, w.heap[q]? = some (.cells cr 93 (0, 0))) : Keeps w w' := by
  intro k o hk hs
  rw [h.block k (Array.getElem?_eq_some_iff.1 hk).1 ?_ ?_]
  · exact hk
  · intro e; rw [e, ha] at hk; injection hk with hk; subst hk; simp [stat] at hs
  · intro e; obtain ⟨cr, hcr⟩ := hr k e.symm; rw [hcr] at hk; injection hk with hk; subst hk; simp [stat] at hs

theorem MapIs.keep {K : Type} {enc : K → Value} {w w' : World} {r : Nat} {m : List (K × Value)} (h : MapIs enc w r m) (k : Keeps w w') : MapIs enc w' r m := by
  obtain ⟨es, c, hh, he⟩ := h
  exact ⟨es, c, k r _ hh rfl, he⟩
theorem VarsOk.keep {w w' : World} {vm : Nat} {ns : List ByteArray} {bs : List Bool} (h : VarsOk w vm ns bs) (k : Keeps w w') : VarsOk w' vm ns bs := by
  obtain ⟨V, hm, hx⟩ := h
  refine ⟨V, hm.keep k, fun x => ⟨(hx x).1, fun h1 => ?_⟩⟩
  obtain ⟨lb, sl, h2, h3⟩ := (hx x).2 h1
  exact ⟨lb, sl, h2, k lb _ h3 rfl⟩
theorem DecOk.keep {w w' : World} {dm : Nat} {dn : List ByteArray} (h : DecOk w dm dn) (k : Keeps w w') : DecOk w' dm dn := by
  obtain ⟨D, hm, hx⟩ := h
  exact ⟨D, hm.keep k, hx⟩
theorem Sc.keep {w w' : World} {sb : Nat} {ov : Value} {ns : List ByteArray} {bs : List Bool} {dn : List ByteArray} {wk : Value} {wm : Nat} (h : Sc w sb ov ns bs dn wk wm) (k : Keeps w w') : Sc w' sb ov ns bs dn wk wm := by
  obtain ⟨vm, dm, h1, h2, h3⟩ := h.ex
  exact ⟨vm, dm, k sb _ h1 rfl, h2.keep k, h3.keep k⟩

/-! ### a store into a map that the call made -/
open ChangeMaps (setBlock)
theorem setBlock_same {w : World} {r : Nat} {o o' : Obj} (h : w.heap[r]? = some o) : (setBlock w r o').heap[r]? = some o' := by
  have := (Array.getElem?_eq_some_iff.1 h).1
  simp [setBlock, this]
theorem setBlock_other {w : World} {r k : Nat} {o' : Obj} (h : k ≠ r) : (setBlock w r o').heap[k]? = w.heap[k]? := by
  simp [setBlock, Ne.symm h]
theorem setBlock_size {w : World} {r : Nat} {o' : Obj} : (setBlock w r o').heap.size = w.heap.size := by simp [setBlock]
theorem below_setBlock {B : Nat} {w0 w : World} {r : Nat} {o' : Obj} (h : Below B w0 w) (hr : B ≤ r) : Below B w0 (setBlock w r o') :=
  ⟨h.os, h.tape, h.output, by rw [setBlock_size]; exact h.size, fun k hk => by rw [setBlock_other (by omega)]; exact h.block k hk⟩

theorem boundIn_snoc : ∀ (ns : List ByteArray) (bs : List Bool) (n : ByteArray) (b : Bool) (x : ByteArray), ns.length = bs.length →
    boundIn (ns ++ [n]) (bs ++ [b]) x = if n = x then b else boundIn ns bs x := by
  intro ns
  induction ns with
  | nil =>
    intro bs n b x hl
    obtain rfl := List.eq_nil_of_length_eq_zero hl.symm
    simp [boundIn, has]
  | cons a t ih =>
    intro bs n b x hl
    cases bs with
    | nil => simp at hl
    | cons c u =>
      simp only [List.length_cons, Nat.add_right_cancel_iff] at hl
      simp only [List.cons_append, boundIn, ih u n b x hl]
      have hh : has (t ++ [n]) x = (has t x || decide (n = x)) := by simp [has]
      rw [hh]
      by_cases hn : n = x
      · simp [hn]
      · simp [hn]
theorem has_snoc (ns : List ByteArray) (n x : ByteArray) : has (ns ++ [n]) x = (has ns x || decide (n = x)) := by simp [has]

/-- one local more. -/
theorem vars_step {w : World} {vm lb : Nat} {ns : List ByteArray} {bs : List Bool} {n : ByteArray} {b : Bool} {sl : Value} {es : Array MapEntry} {c : Nat} {V : List (ByteArray × Value)} (hl : ns.length = bs.length)
    (hm : MapIs Value.string w vm V)
    (hx : ∀ x, (has ns x = false → get V x = none) ∧ (has ns x = true → ∃ lb sl, get V x = some (.pointer (some ⟨lb, 0, none⟩)) ∧ w.heap[lb]? = some (.cells #[sl, .bool (boundIn ns bs x), .bool false] 89 (0, 0))))
    (hlb : lb ≠ vm) (hnew : w.heap[lb]? = some (.cells #[sl, .bool b, .bool false] 89 (0, 0))) (he : ents Value.string es.toList (upd V n (.pointer (some ⟨lb, 0, none⟩)))) :
    VarsOk (setBlock w vm (.map es c)) vm (ns ++ [n]) (bs ++ [b]) := by
  obtain ⟨es0, c0, hh0, he0⟩ := hm
  refine ⟨upd V n (.pointer (some ⟨lb, 0, none⟩)), ⟨es, c, setBlock_same hh0, he⟩, fun x => ⟨?_, ?_⟩⟩
  · intro h1
    rw [has_snoc, Bool.or_eq_false_iff] at h1
    rw [get_upd, if_neg (by simpa using h1.2)]
    exact (hx x).1 h1.1
  · intro h1
    rw [get_upd, boundIn_snoc ns bs n b x hl]
    by_cases hn : n = x
    · rw [if_pos hn, if_pos hn]
      exact ⟨lb, sl, rfl, by rw [setBlock_other hlb]; exact hnew⟩
    · rw [if_neg hn, if_neg hn]
      rw [has_snoc, decide_eq_false hn, Bool.or_false] at h1
      obtain ⟨l2, s2, h2, h3⟩ := (hx x).2 h1
      refine ⟨l2, s2, h2, ?_⟩
      rw [setBlock_other ?_]
      · exact h3
      · intro e; rw [e, hh0] at h3; simp at h3
end Go.Proofs.Qxb6602244a
