/-
  THE WALK OF scanByAutomatonQb1 (9).
-/
import Derived.Test.Qxb6602135aCap
import Derived.WalkKit
import Derived.ProofKit
import Derived.WalkSpells
import Derived.Laws.BytesString
import Derived.Laws.IdiomStrings
namespace Go.Proofs.Qxb6602135a
open Go.ChangeShapes Go.WideShapes Go.ChangeAt Go.RowKit
open Plain (St runs Ok dg cap7 held)
set_option linter.unusedVariables false

theorem info5 : (Try.prog.info? 5).map (fun i => (i.zero, i.size, i.bytes)) = some (some (.int .u8 0), 1, 1) := by kernel_rfl

/-- 'l = append(l, c)': one byte onto a row of the call's own. -/
theorem push8 {ops : Array Oper} {rest : List Oper} {o : Oper} {a : Act} {Q : Exit → Act → World → Prop} {wr : World} (hgd : o.guard = none) (s x : Operand)
    (ho : o.op = .call { callee := .builtin .append, args := #[s, x], argTypes := #[32, 32] })
    (B : Nat) (v : Value) (l : List UInt8) (c : UInt8) (hs : a.eval s = v) (hx : a.eval x = .slice (some ⟨wr.heap.size, 0, none⟩) 1 1)
    (hown : wr.ownsRow B 5 1 v l.length (l.map B8)) (hn : l.length ≤ 1048576) (hB : B ≤ wr.heap.size)
    (h : ∀ v' w', w'.ownsRow B 5 1 v' (l ++ [c]).length ((l ++ [c]).map B8) → wr.grownBy w' v.ownBlock → wpList Try.prog ops Q rest (a.put o.dst v') w') :
    wpList Try.prog ops Q (o :: rest) a (wr.alloc (.cells #[.int .u8 c.toNat] 5)) := by
  obtain ⟨i0, hi, hz0, hz1, hz2⟩ := info_parts info5
  refine wpList_append_own _ hgd s x 32 ho B 5 i0 (.int .u8 0) 1 1 Try.underlying32 hi hz0 hz1 hz2 rfl (by decide) v l.length (l.map B8) hs (hown.alloc _) ⟨wr.heap.size, 0, none⟩ 1 1 [.int .u8 c.toNat] hx rfl (cell_one_new _ _ _) ?_ ?_ ?_ ?_ ?_
  · intro u hu; simp at hu; subst hu; rfl
  · unfold maxLen; omega
  · omega
  · simp; omega
  · intro v' w' h1 h2 _
    refine h v' w' (by simpa [B8] using h1) ⟨h2.os, h2.tape, h2.output, ?_, ?_⟩
    · have := h2.size; simp at this; omega
    · intro k hk hne
      rw [h2.block k (by simp; omega) hne]
      exact Below.heap_alloc _ _ _ hk

/-- what the loop keeps. -/
structure Rel (s : ByteArray) (w : World) (k : Nat) (x : St) (vb ve : Value) (wr : World) : Prop where
  ran : runs Plain.start (s.data.toList.take k) = some x
  ok : Ok k x
  bel : Below w.heap.size w wr
  ownb : wr.ownsRow w.heap.size 5 1 vb x.body.length (x.body.map B8)
  owne : ∃ B, w.heap.size ≤ B ∧ B ≤ wr.heap.size ∧ (∀ q, vb.ownBlock = some q → q < B) ∧ wr.ownsRow B 5 1 ve x.ed.length (x.ed.map B8)
  early : x.st ≤ 5 → ve = .slice none 0 0

theorem rel_start (s : ByteArray) (w : World) : Rel s w 0 Plain.start (.slice none 0 0) (.slice none 0 0) w where
  ran := by simp [runs]
  ok := ⟨by simp [Plain.start], by simp [Plain.start], by simp [Plain.start], by simp [Plain.start], by simp [Plain.start], by simp [Plain.start]⟩
  bel := Below.refl _ _
  ownb := World.ownsRow_nil _ _ _ _
  owne := ⟨w.heap.size, Nat.le_refl _, Nat.le_refl _, by simp [Value.ownBlock], World.ownsRow_nil _ _ _ _⟩
  early := fun _ => rfl

theorem take_snoc (s : ByteArray) (k : Nat) (h : k < s.size) : s.data.toList.take (k + 1) = s.data.toList.take k ++ [s[k]] := by
  rw [List.take_succ_eq_append_getElem (by simpa using h)]; rfl

theorem ran_step {s : ByteArray} {k : Nat} {x : St} (hr : runs Plain.start (s.data.toList.take k) = some x) (h : k < s.size) : runs Plain.start (s.data.toList.take (k + 1)) = Plain.step x s[k] := by
  rw [take_snoc s k h, Plain.runs_snoc, hr]

/-- the state turns, nothing is gathered. -/
theorem rel_move {s : ByteArray} {w : World} {k : Nat} {x y : St} {vb ve : Value} {wr : World} (R : Rel s w k x vb ve wr) (h : k < s.size) (hs : Plain.step x s[k] = some y)
    (hb : y.body = x.body) (he : y.ed = x.ed) (hst : y.st ≤ 5 → x.st ≤ 5) : Rel s w (k + 1) y vb ve wr where
  ran := (ran_step R.ran h).trans hs
  ok := Plain.ok_step R.ok hs
  bel := R.bel
  ownb := by rw [hb]; exact R.ownb
  owne := by rw [he]; exact R.owne
  early := fun q => R.early (hst q)

/-- a byte onto the body. -/
theorem rel_body {s : ByteArray} {w : World} {k : Nat} {x y : St} {vb ve vb' : Value} {wr w1 : World} (R : Rel s w k x vb ve wr) (h : k < s.size) (hs : Plain.step x s[k] = some y)
    (hb : y.body = x.body ++ [s[k]]) (he : y.ed = x.ed) (hst : x.st ≤ 5) (ho : w1.ownsRow w.heap.size 5 1 vb' (x.body ++ [s[k]]).length ((x.body ++ [s[k]]).map B8)) (hg : wr.grownBy w1 vb.ownBlock) :
    Rel s w (k + 1) y vb' ve w1 where
  ran := (ran_step R.ran h).trans hs
  ok := Plain.ok_step R.ok hs
  bel := R.bel.grown hg R.bel.size (fun q hq => (R.ownb.lt q hq).1)
  ownb := by rw [hb]; exact ho
  owne := by
    rw [he, R.ok.early hst, R.early hst]
    exact ⟨w1.heap.size, Nat.le_trans R.bel.size hg.size, Nat.le_refl _, fun q hq => (ho.lt q hq).2, World.ownsRow_nil _ _ _ _⟩
  early := fun _ => R.early hst

/-- a byte onto the exponent's digits. -/
theorem rel_exp {s : ByteArray} {w : World} {k : Nat} {x y : St} {vb ve ve' : Value} {wr w1 : World} {B : Nat} (R : Rel s w k x vb ve wr) (h : k < s.size) (hs : Plain.step x s[k] = some y)
    (hb : y.body = x.body) (he : y.ed = x.ed ++ [s[k]]) (hst : y.st = 8) (h1 : w.heap.size ≤ B) (h2 : B ≤ wr.heap.size) (h3 : ∀ q, vb.ownBlock = some q → q < B)
    (hoe : wr.ownsRow B 5 1 ve x.ed.length (x.ed.map B8))
    (ho : w1.ownsRow B 5 1 ve' (x.ed ++ [s[k]]).length ((x.ed ++ [s[k]]).map B8)) (hg : wr.grownBy w1 ve.ownBlock) :
    Rel s w (k + 1) y vb ve' w1 where
  ran := (ran_step R.ran h).trans hs
  ok := Plain.ok_step R.ok hs
  bel := R.bel.grown hg R.bel.size (fun q hq => by have := (hoe.lt q hq).1; omega)
  ownb := by
    rw [hb]
    refine R.ownb.kept hg ?_
    cases hv : vb.ownBlock with
    | none => exact .inl rfl
    | some q =>
      right
      intro e
      have a1 := h3 q hv
      have a2 := (hoe.lt q e.symm).1
      omega
  owne := by rw [he]; exact ⟨B, h1, Nat.le_trans h2 hg.size, h3, ho⟩
  early := fun q => by omega

theorem runs_none (x : St) (l t : List UInt8) (h : runs x l = none) : runs x (l ++ t) = none := by
  induction l generalizing x with
  | nil => simp [runs] at h
  | cons c l ih =>
    simp only [List.cons_append, runs] at h ⊢
    cases hs : Plain.step x c with
    | none => rfl
    | some y => rw [hs] at h; exact ih y h

theorem auto_none {s : ByteArray} {w : World} {k : Nat} {x : St} {vb ve : Value} {wr : World} (lim : Nat) (R : Rel s w k x vb ve wr) (h : k < s.size) (hs : Plain.step x s[k] = none) : Plain.auto lim s.data.toList = none := by
  unfold Plain.auto Plain.go
  rw [← List.take_append_drop (k + 1) s.data.toList, runs_none Plain.start _ _ ((ran_step R.ran h).trans hs)]
  rfl

/-- what the function hands back. -/
def back4 : Option (Bool × List UInt8 × Int) → Value
  | none => .tuple #[.bool false, .string ⟨#[]⟩, .int .i64 0, .bool false]
  | some (ng, b, e) => .tuple #[.bool ng, .string ⟨b.toArray⟩, .int .i64 e, .bool true]

theorem results_tmp4 {fn : Func} {t u v x : Tmp} (h : fn.results = #[.tmp t, .tmp u, .tmp v, .tmp x]) (tmps : Array Value) (P : Program) (w : World) :
    (results fn tmps).run P w = .ok (.tuple #[tmps.getD t undef, tmps.getD u undef, tmps.getD v undef, tmps.getD x undef]) w := by
  simp [results, h]

/-- the automaton's step, its tests on numbers. -/
def stepI (x : St) (c : UInt8) (n : Int) : Option St :=
  match x.st with
  | 0 => if n = 45 then some { x with st := 1, ng := true } else if n = 48 then some { x with st := 2, body := x.body ++ [c] } else if 48 ≤ n ∧ n ≤ 57 then some { x with st := 3, body := x.body ++ [c] } else none
  | 1 => if n = 48 then some { x with st := 2, body := x.body ++ [c] } else if 48 ≤ n ∧ n ≤ 57 then some { x with st := 3, body := x.body ++ [c] } else none
  | 2 => if n = 46 then some { x with st := 4 } else if n = 101 ∨ n = 69 then some { x with st := 6 } else none
  | 3 => if 48 ≤ n ∧ n ≤ 57 then some { x with st := 3, body := x.body ++ [c] } else if n = 46 then some { x with st := 4 } else if n = 101 ∨ n = 69 then some { x with st := 6 } else none
  | 4 => if 48 ≤ n ∧ n ≤ 57 then some { x with st := 5, body := x.body ++ [c], fr := x.fr + 1 } else none
  | 5 => if 48 ≤ n ∧ n ≤ 57 then some { x with st := 5, body := x.body ++ [c], fr := x.fr + 1 } else if n = 101 ∨ n = 69 then some { x with st := 6 } else none
  | 6 => if n = 43 then some { x with st := 7 } else if n = 45 then some { x with st := 7, en := true } else if 48 ≤ n ∧ n ≤ 57 then some { x with st := 8, ed := x.ed ++ [c] } else none
  | 7 => if 48 ≤ n ∧ n ≤ 57 then some { x with st := 8, ed := x.ed ++ [c] } else none
  | 8 => if 48 ≤ n ∧ n ≤ 57 then some { x with st := 8, ed := x.ed ++ [c] } else none
  | _ => none

theorem u8_iff (c d : UInt8) : c = d ↔ (c.toNat : Int) = (d.toNat : Int) := by
  rw [← UInt8.toNat_inj]; omega
theorem step_int (x : St) (c : UInt8) : Plain.step x c = stepI x c c.toNat := by
  unfold Plain.step stepI Plain.mk
  simp only [u8_iff, Plain.dg_iff, decide_eq_true_eq]
  rfl

/-- 'string(body)': the body read in whatever world holds it. -/
theorem conv_body (w : World) (B : Nat) (v : Value) (l : List UInt8) (h : w.ownsRow B 5 1 v l.length (l.map B8)) :
    (convert 32 9 v).run Try.prog w = .ok (.string ⟨l.toArray⟩) w := by
  rcases h.2 with ⟨hv, h0⟩ | ⟨g, cap, cur, hv, r⟩
  · obtain rfl := List.eq_nil_of_length_eq_zero h0
    subst hv
    rw [run_convert_bytes_string w 32 9 5 none 0 0 Try.underlying32 Try.underlying5 Try.underlying9]
    rfl
  · have hc := h.cells (g := g) (by rw [hv]; rfl)
    subst hv
    refine run_convert_bytes_back w 32 9 5 ⟨g, 0, none⟩ cap l Try.underlying32 Try.underlying5 Try.underlying9 ?_
    intro j hj
    exact hc j (B8 l[j]) (by rw [List.getElem?_map, List.getElem?_eq_getElem hj]; rfl)

theorem ownsRow_drew {w : World} {B : Nat} {e : TypeId} {z : Nat} {v : Value} {n : Nat} {xs : List Value} (h : w.ownsRow B e z v n xs) : w.drew.ownsRow B e z v n xs := h

theorem rel_end {s : ByteArray} {w : World} {k : Nat} {x : St} {vb ve : Value} {wr : World} (lim : Nat) (R : Rel s w k x vb ve wr) (h : s.size ≤ k) : Plain.auto lim s.data.toList = Plain.ends lim x := by
  have hr := R.ran
  rw [List.take_of_length_le (by simpa using h)] at hr
  unfold Plain.auto Plain.go
  rw [hr]
  rfl

/-! ### the steps, a row a way -/
theorem st0_0 {c : UInt8} {ng en : Bool} {b ed : List UInt8} {f : Nat} (h : (45 ≤ (c.toNat : Int) ∧ (c.toNat : Int) ≤ 45)) : Plain.step ⟨0, ng, en, b, ed, f⟩ c = some ⟨1, true, en, b, ed, f⟩ := by
  rw [step_int]; simp only [stepI]; (repeat' split) <;> first | rfl | (exfalso; omega)
theorem st0_1 {c : UInt8} {ng en : Bool} {b ed : List UInt8} {f : Nat} (h : (48 ≤ (c.toNat : Int) ∧ (c.toNat : Int) ≤ 48)) : Plain.step ⟨0, ng, en, b, ed, f⟩ c = some ⟨2, ng, en, b ++ [c], ed, f⟩ := by
  rw [step_int]; simp only [stepI]; (repeat' split) <;> first | rfl | (exfalso; omega)
theorem st0_2 {c : UInt8} {ng en : Bool} {b ed : List UInt8} {f : Nat} (h : (49 ≤ (c.toNat : Int) ∧ (c.toNat : Int) ≤ 57)) : Plain.step ⟨0, ng, en, b, ed, f⟩ c = some ⟨3, ng, en, b ++ [c], ed, f⟩ := by
  rw [step_int]; simp only [stepI]; (repeat' split) <;> first | rfl | (exfalso; omega)
theorem st0_3 {c : UInt8} {ng en : Bool} {b ed : List UInt8} {f : Nat} (h : (((c.toNat : Int) < 45 ∨ 45 < (c.toNat : Int)) ∧ ((c.toNat : Int) < 48 ∨ 57 < (c.toNat : Int)))) : Plain.step ⟨0, ng, en, b, ed, f⟩ c = none := by
  rw [step_int]; simp only [stepI]; (repeat' split) <;> first | rfl | (exfalso; omega)
theorem st1_0 {c : UInt8} {ng en : Bool} {b ed : List UInt8} {f : Nat} (h : (48 ≤ (c.toNat : Int) ∧ (c.toNat : Int) ≤ 48)) : Plain.step ⟨1, ng, en, b, ed, f⟩ c = some ⟨2, ng, en, b ++ [c], ed, f⟩ := by
  rw [step_int]; simp only [stepI]; (repeat' split) <;> first | rfl | (exfalso; omega)
theorem st1_1 {c : UInt8} {ng en : Bool} {b ed : List UInt8} {f : Nat} (h : (49 ≤ (c.toNat : Int) ∧ (c.toNat : Int) ≤ 57)) : Plain.step ⟨1, ng, en, b, ed, f⟩ c = some ⟨3, ng, en, b ++ [c], ed, f⟩ := by
  rw [step_int]; simp only [stepI]; (repeat' split) <;> first | rfl | (exfalso; omega)
theorem st1_2 {c : UInt8} {ng en : Bool} {b ed : List UInt8} {f : Nat} (h : (((c.toNat : Int) < 48 ∨ 57 < (c.toNat : Int)))) : Plain.step ⟨1, ng, en, b, ed, f⟩ c = none := by
  rw [step_int]; simp only [stepI]; (repeat' split) <;> first | rfl | (exfalso; omega)
theorem st2_0 {c : UInt8} {ng en : Bool} {b ed : List UInt8} {f : Nat} (h : (46 ≤ (c.toNat : Int) ∧ (c.toNat : Int) ≤ 46)) : Plain.step ⟨2, ng, en, b, ed, f⟩ c = some ⟨4, ng, en, b, ed, f⟩ := by
  rw [step_int]; simp only [stepI]; (repeat' split) <;> first | rfl | (exfalso; omega)
theorem st2_1 {c : UInt8} {ng en : Bool} {b ed : List UInt8} {f : Nat} (h : (101 ≤ (c.toNat : Int) ∧ (c.toNat : Int) ≤ 101)) : Plain.step ⟨2, ng, en, b, ed, f⟩ c = some ⟨6, ng, en, b, ed, f⟩ := by
  rw [step_int]; simp only [stepI]; (repeat' split) <;> first | rfl | (exfalso; omega)
theorem st2_2 {c : UInt8} {ng en : Bool} {b ed : List UInt8} {f : Nat} (h : (69 ≤ (c.toNat : Int) ∧ (c.toNat : Int) ≤ 69)) : Plain.step ⟨2, ng, en, b, ed, f⟩ c = some ⟨6, ng, en, b, ed, f⟩ := by
  rw [step_int]; simp only [stepI]; (repeat' split) <;> first | rfl | (exfalso; omega)
theorem st2_3 {c : UInt8} {ng en : Bool} {b ed : List UInt8} {f : Nat} (h : (((c.toNat : Int) < 46 ∨ 46 < (c.toNat : Int)) ∧ ((c.toNat : Int) < 101 ∨ 101 < (c.toNat : Int)) ∧ ((c.toNat : Int) < 69 ∨ 69 < (c.toNat : Int)))) : Plain.step ⟨2, ng, en, b, ed, f⟩ c = none := by
  rw [step_int]; simp only [stepI]; (repeat' split) <;> first | rfl | (exfalso; omega)
theorem st3_0 {c : UInt8} {ng en : Bool} {b ed : List UInt8} {f : Nat} (h : (48 ≤ (c.toNat : Int) ∧ (c.toNat : Int) ≤ 57)) : Plain.step ⟨3, ng, en, b, ed, f⟩ c = some ⟨3, ng, en, b ++ [c], ed, f⟩ := by
  rw [step_int]; simp only [stepI]; (repeat' split) <;> first | rfl | (exfalso; omega)
theorem st3_1 {c : UInt8} {ng en : Bool} {b ed : List UInt8} {f : Nat} (h : (46 ≤ (c.toNat : Int) ∧ (c.toNat : Int) ≤ 46)) : Plain.step ⟨3, ng, en, b, ed, f⟩ c = some ⟨4, ng, en, b, ed, f⟩ := by
  rw [step_int]; simp only [stepI]; (repeat' split) <;> first | rfl | (exfalso; omega)
theorem st3_2 {c : UInt8} {ng en : Bool} {b ed : List UInt8} {f : Nat} (h : (101 ≤ (c.toNat : Int) ∧ (c.toNat : Int) ≤ 101)) : Plain.step ⟨3, ng, en, b, ed, f⟩ c = some ⟨6, ng, en, b, ed, f⟩ := by
  rw [step_int]; simp only [stepI]; (repeat' split) <;> first | rfl | (exfalso; omega)
theorem st3_3 {c : UInt8} {ng en : Bool} {b ed : List UInt8} {f : Nat} (h : (69 ≤ (c.toNat : Int) ∧ (c.toNat : Int) ≤ 69)) : Plain.step ⟨3, ng, en, b, ed, f⟩ c = some ⟨6, ng, en, b, ed, f⟩ := by
  rw [step_int]; simp only [stepI]; (repeat' split) <;> first | rfl | (exfalso; omega)
theorem st3_4 {c : UInt8} {ng en : Bool} {b ed : List UInt8} {f : Nat} (h : (((c.toNat : Int) < 48 ∨ 57 < (c.toNat : Int)) ∧ ((c.toNat : Int) < 46 ∨ 46 < (c.toNat : Int)) ∧ ((c.toNat : Int) < 101 ∨ 101 < (c.toNat : Int)) ∧ ((c.toNat : Int) < 69 ∨ 69 < (c.toNat : Int)))) : Plain.step ⟨3, ng, en, b, ed, f⟩ c = none := by
  rw [step_int]; simp only [stepI]; (repeat' split) <;> first | rfl | (exfalso; omega)
theorem st4_0 {c : UInt8} {ng en : Bool} {b ed : List UInt8} {f : Nat} (h : (48 ≤ (c.toNat : Int) ∧ (c.toNat : Int) ≤ 57)) : Plain.step ⟨4, ng, en, b, ed, f⟩ c = some ⟨5, ng, en, b ++ [c], ed, f + 1⟩ := by
  rw [step_int]; simp only [stepI]; (repeat' split) <;> first | rfl | (exfalso; omega)
theorem st4_1 {c : UInt8} {ng en : Bool} {b ed : List UInt8} {f : Nat} (h : (((c.toNat : Int) < 48 ∨ 57 < (c.toNat : Int)))) : Plain.step ⟨4, ng, en, b, ed, f⟩ c = none := by
  rw [step_int]; simp only [stepI]; (repeat' split) <;> first | rfl | (exfalso; omega)
theorem st5_0 {c : UInt8} {ng en : Bool} {b ed : List UInt8} {f : Nat} (h : (48 ≤ (c.toNat : Int) ∧ (c.toNat : Int) ≤ 57)) : Plain.step ⟨5, ng, en, b, ed, f⟩ c = some ⟨5, ng, en, b ++ [c], ed, f + 1⟩ := by
  rw [step_int]; simp only [stepI]; (repeat' split) <;> first | rfl | (exfalso; omega)
theorem st5_1 {c : UInt8} {ng en : Bool} {b ed : List UInt8} {f : Nat} (h : (101 ≤ (c.toNat : Int) ∧ (c.toNat : Int) ≤ 101)) : Plain.step ⟨5, ng, en, b, ed, f⟩ c = some ⟨6, ng, en, b, ed, f⟩ := by
  rw [step_int]; simp only [stepI]; (repeat' split) <;> first | rfl | (exfalso; omega)
theorem st5_2 {c : UInt8} {ng en : Bool} {b ed : List UInt8} {f : Nat} (h : (69 ≤ (c.toNat : Int) ∧ (c.toNat : Int) ≤ 69)) : Plain.step ⟨5, ng, en, b, ed, f⟩ c = some ⟨6, ng, en, b, ed, f⟩ := by
  rw [step_int]; simp only [stepI]; (repeat' split) <;> first | rfl | (exfalso; omega)
theorem st5_3 {c : UInt8} {ng en : Bool} {b ed : List UInt8} {f : Nat} (h : (((c.toNat : Int) < 48 ∨ 57 < (c.toNat : Int)) ∧ ((c.toNat : Int) < 101 ∨ 101 < (c.toNat : Int)) ∧ ((c.toNat : Int) < 69 ∨ 69 < (c.toNat : Int)))) : Plain.step ⟨5, ng, en, b, ed, f⟩ c = none := by
  rw [step_int]; simp only [stepI]; (repeat' split) <;> first | rfl | (exfalso; omega)
theorem st6_0 {c : UInt8} {ng en : Bool} {b ed : List UInt8} {f : Nat} (h : (43 ≤ (c.toNat : Int) ∧ (c.toNat : Int) ≤ 43)) : Plain.step ⟨6, ng, en, b, ed, f⟩ c = some ⟨7, ng, en, b, ed, f⟩ := by
  rw [step_int]; simp only [stepI]; (repeat' split) <;> first | rfl | (exfalso; omega)
theorem st6_1 {c : UInt8} {ng en : Bool} {b ed : List UInt8} {f : Nat} (h : (45 ≤ (c.toNat : Int) ∧ (c.toNat : Int) ≤ 45)) : Plain.step ⟨6, ng, en, b, ed, f⟩ c = some ⟨7, ng, true, b, ed, f⟩ := by
  rw [step_int]; simp only [stepI]; (repeat' split) <;> first | rfl | (exfalso; omega)
theorem st6_2 {c : UInt8} {ng en : Bool} {b ed : List UInt8} {f : Nat} (h : (48 ≤ (c.toNat : Int) ∧ (c.toNat : Int) ≤ 57)) : Plain.step ⟨6, ng, en, b, ed, f⟩ c = some ⟨8, ng, en, b, ed ++ [c], f⟩ := by
  rw [step_int]; simp only [stepI]; (repeat' split) <;> first | rfl | (exfalso; omega)
theorem st6_3 {c : UInt8} {ng en : Bool} {b ed : List UInt8} {f : Nat} (h : (((c.toNat : Int) < 43 ∨ 43 < (c.toNat : Int)) ∧ ((c.toNat : Int) < 45 ∨ 45 < (c.toNat : Int)) ∧ ((c.toNat : Int) < 48 ∨ 57 < (c.toNat : Int)))) : Plain.step ⟨6, ng, en, b, ed, f⟩ c = none := by
  rw [step_int]; simp only [stepI]; (repeat' split) <;> first | rfl | (exfalso; omega)
theorem st7_0 {c : UInt8} {ng en : Bool} {b ed : List UInt8} {f : Nat} (h : (48 ≤ (c.toNat : Int) ∧ (c.toNat : Int) ≤ 57)) : Plain.step ⟨7, ng, en, b, ed, f⟩ c = some ⟨8, ng, en, b, ed ++ [c], f⟩ := by
  rw [step_int]; simp only [stepI]; (repeat' split) <;> first | rfl | (exfalso; omega)
theorem st7_1 {c : UInt8} {ng en : Bool} {b ed : List UInt8} {f : Nat} (h : (((c.toNat : Int) < 48 ∨ 57 < (c.toNat : Int)))) : Plain.step ⟨7, ng, en, b, ed, f⟩ c = none := by
  rw [step_int]; simp only [stepI]; (repeat' split) <;> first | rfl | (exfalso; omega)
theorem st8_0 {c : UInt8} {ng en : Bool} {b ed : List UInt8} {f : Nat} (h : (48 ≤ (c.toNat : Int) ∧ (c.toNat : Int) ≤ 57)) : Plain.step ⟨8, ng, en, b, ed, f⟩ c = some ⟨8, ng, en, b, ed ++ [c], f⟩ := by
  rw [step_int]; simp only [stepI]; (repeat' split) <;> first | rfl | (exfalso; omega)
theorem st8_1 {c : UInt8} {ng en : Bool} {b ed : List UInt8} {f : Nat} (h : (((c.toNat : Int) < 48 ∨ 57 < (c.toNat : Int)))) : Plain.step ⟨8, ng, en, b, ed, f⟩ c = none := by
  rw [step_int]; simp only [stepI]; (repeat' split) <;> first | rfl | (exfalso; omega)
end Go.Proofs.Qxb6602135a
