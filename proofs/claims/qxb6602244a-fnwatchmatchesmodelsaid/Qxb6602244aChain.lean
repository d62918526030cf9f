/-
  A CHAIN OF SCOPES IN MEMORY.
-/
import Derived.Test.Qxb6602244aFrames
namespace Go.Proofs.Qxb6602244a
open Go.ChangeShapes Go.WideShapes Go.ChangeAt Go.RowKit
set_option linter.unusedVariables false

def ptr (n : Nat) : Value := .pointer (some ⟨n, 0, none⟩)

/-- THE SCOPES FROM j ON ARE BUILT: sb: their blocks; ab: their walks' blocks; rb: those walks' rows; rs: those walks' reads. B: the heap's size when the law began. -/
structure Chain (B : Nat) (w : World) (fs : List Fr) (j : Nat) (sb ab wm : Nat → Nat) (rb : Nat → Option Nat) (rs : Nat → List (ByteArray × Int)) : Prop where
  sc : ∀ i, j ≤ i → (h : i < fs.length) → Sc w (sb i) (if i + 1 < fs.length then ptr (sb (i + 1)) else .pointer none) fs[i].vn fs[i].vb fs[i].dc (if fs[i].hw then ptr (ab i) else .pointer none) (wm i)
  att : ∀ i, j ≤ i → (h : i < fs.length) → fs[i].hw = true → Att w B (ab i) fs[i].nn.toNat (rs i) (rb i)
  losb : ∀ i, j ≤ i → i < fs.length → B ≤ sb i
  loab : ∀ i, j ≤ i → (h : i < fs.length) → fs[i].hw = true → B ≤ ab i
  nesb : ∀ i k, j ≤ i → i < k → k < fs.length → sb i ≠ sb k
  neab : ∀ i k, j ≤ i → i < k → (h : i < fs.length) → (h' : k < fs.length) → fs[i].hw = true → fs[k].hw = true → ab i ≠ ab k ∧ (rb i = none ∨ rb i ≠ rb k)

theorem Att.below {w w' : World} {B ab nn : Nat} {rs : List (ByteArray × Int)} {rb : Option Nat} (h : Att w B ab nn rs rb) (hb : Below w.heap.size w w') : Att w' B ab nn rs rb := by
  obtain ⟨na, nc, un, v, nx, ch, h1, h2, h3⟩ := h.ex
  refine ⟨na, nc, un, v, nx, ch, by rw [hb.block ab (Array.getElem?_eq_some_iff.1 h1).1]; exact h1, ⟨h2.1, ?_⟩, h3⟩
  rcases h2.2 with h4 | ⟨g, cap, cur, hv, hbg, hg, r⟩
  · exact .inl h4
  · exact .inr ⟨g, cap, cur, hv, hbg, by rw [hb.block g (Array.getElem?_eq_some_iff.1 hg).1]; exact hg, r⟩
theorem Att.lt {w : World} {B ab nn : Nat} {rs : List (ByteArray × Int)} {rb : Option Nat} (h : Att w B ab nn rs rb) : ab < w.heap.size ∧ ∀ q, rb = some q → B ≤ q ∧ q < w.heap.size := by
  obtain ⟨na, nc, un, v, nx, ch, h1, h2, h3⟩ := h.ex
  exact ⟨(Array.getElem?_eq_some_iff.1 h1).1, fun q hq => h2.lt q (h3.trans hq)⟩
theorem Att.mono {w : World} {B B' ab nn : Nat} {rs : List (ByteArray × Int)} {rb : Option Nat} (h : Att w B ab nn rs rb) (hB : B' ≤ B) : Att w B' ab nn rs rb := by
  obtain ⟨na, nc, un, v, nx, ch, h1, h2, h3⟩ := h.ex
  refine ⟨na, nc, un, v, nx, ch, h1, ⟨h2.1, ?_⟩, h3⟩
  rcases h2.2 with h4 | ⟨g, cap, cur, hv, hbg, hg, r⟩
  · exact .inl h4
  · exact .inr ⟨g, cap, cur, hv, by omega, hg, r⟩
theorem Sc.lt {w : World} {sb : Nat} {ov : Value} {ns : List ByteArray} {bs : List Bool} {dn : List ByteArray} {wk : Value} {wm : Nat} (h : Sc w sb ov ns bs dn wk wm) : sb < w.heap.size := by
  obtain ⟨vm, dm, h1, _⟩ := h.ex
  exact (Array.getElem?_eq_some_iff.1 h1).1
theorem Chain.below {B : Nat} {w w' : World} {fs : List Fr} {j : Nat} {sb ab wm : Nat → Nat} {rb : Nat → Option Nat} {rs : Nat → List (ByteArray × Int)} (h : Chain B w fs j sb ab wm rb rs) (hb : Below w.heap.size w w') : Chain B w' fs j sb ab wm rb rs :=
  ⟨fun i h1 h2 => (h.sc i h1 h2).keep (Keeps.below hb), fun i h1 h2 h3 => (h.att i h1 h2 h3).below hb, h.losb, h.loab, h.nesb, h.neab⟩

/-- one scope more, ahead of the others. -/
theorem chain_cons {B : Nat} {w w' : World} {fs : List Fr} {j : Nat} {sb ab wm : Nat → Nat} {rb : Nat → Option Nat} {e : Ending} (hj : j < fs.length)
    (h : Chain B w fs (j + 1) sb ab wm rb (fun i => if h : i < fs.length then fs[i].rn.zip fs[i].ra else [])) (hB : B ≤ w.heap.size)
    (hN : NewPost (if j + 1 < fs.length then ptr (sb (j + 1)) else .pointer none) fs[j].vn fs[j].vb fs[j].dc fs[j].hw fs[j].nn fs[j].rn fs[j].ra w e w') :
    ∃ (s : Nat) (ab' wm' : Nat → Nat) (rb' : Nat → Option Nat), e = .returned (ptr s) ∧ Below w.heap.size w w' ∧ w.heap.size ≤ s ∧
      Chain B w' fs j (fun i => if i = j then s else sb i) ab' wm' rb' (fun i => if h : i < fs.length then fs[i].rn.zip fs[i].ra else []) := by
  obtain ⟨s, wk, m, hs, hm, he, hbel, hsc, _, hwk⟩ := hN
  have h' := h.below hbel
  obtain ⟨a, r, ha⟩ : ∃ (a : Nat) (r : Option Nat), (fs[j].hw = false ∧ wk = .pointer none) ∨ (fs[j].hw = true ∧ wk = ptr a ∧ w.heap.size ≤ a ∧ Att w' w.heap.size a fs[j].nn.toNat (fs[j].rn.zip fs[j].ra) r) := by
    rcases hwk with ⟨h1, h2⟩ | ⟨h1, a, r, h2, h3, h4⟩
    · exact ⟨0, none, .inl ⟨h1, h2⟩⟩
    · exact ⟨a, r, .inr ⟨h1, h2, h3, h4⟩⟩
  refine ⟨s, fun i => if i = j then a else ab i, fun i => if i = j then m else wm i, fun i => if i = j then r else rb i, he, hbel, hs, ?_⟩
  refine ⟨?_, ?_, ?_, ?_, ?_, ?_⟩
  · intro i h1 h2
    by_cases hi : i = j
    · subst hi
      simp only [if_true, show ¬ (i + 1 = i) from by omega, if_false]
      rcases ha with ⟨q1, q2⟩ | ⟨q1, q2, _⟩
      · rw [q2] at hsc; rw [q1]; simp only [Bool.false_eq_true, if_false]; exact hsc
      · rw [q2] at hsc; rw [q1]; simp only [if_true]; exact hsc
    · simp only [hi, if_false, show ¬ (i + 1 = j) from by omega]
      exact h'.sc i (by omega) h2
  · intro i h1 h2 h3
    by_cases hi : i = j
    · subst hi
      simp only [if_true, h2, dite_true]
      rcases ha with ⟨q1, _⟩ | ⟨_, _, _, q4⟩
      · rw [q1] at h3; cases h3
      · exact q4.mono hB
    · simp only [hi, if_false]
      exact h'.att i (by omega) h2 h3
  · intro i h1 h2
    by_cases hi : i = j
    · simp only [hi, if_true]; omega
    · simp only [hi, if_false]; exact h.losb i (by omega) h2
  · intro i h1 h2 h3
    by_cases hi : i = j
    · subst hi
      simp only [if_true]
      rcases ha with ⟨q1, _⟩ | ⟨_, _, q3, _⟩
      · rw [q1] at h3; cases h3
      · omega
    · simp only [hi, if_false]; exact h.loab i (by omega) h2 h3
  · intro i k h1 h2 h3
    by_cases hi : i = j
    · have hk : ¬ k = j := by omega
      simp only [hi, if_true, hk, if_false]
      have := (h.sc k (by omega) h3).lt
      omega
    · have hk : ¬ k = j := by omega
      simp only [hi, hk, if_false]
      exact h.nesb i k (by omega) h2 h3
  · intro i k h1 h2 h3 h4 h5 h6
    by_cases hi : i = j
    · have hk : ¬ k = j := by omega
      subst hi
      simp only [if_true, hk, if_false]
      rcases ha with ⟨q1, _⟩ | ⟨_, _, q3, q4⟩
      · rw [q1] at h5; cases h5
      · obtain ⟨l1, l2⟩ := (h.att k (by omega) h4 h6).lt
        refine ⟨by omega, ?_⟩
        cases hr : r with
        | none => exact .inl rfl
        | some q =>
          right
          intro e
          have a1 := (q4.lt.2 q hr).1
          have a2 := (l2 q e.symm).2
          omega
    · have hk : ¬ k = j := by omega
      simp only [hi, hk, if_false]
      exact h.neab i k (by omega) h2 h3 h4 h5 h6

/-- what scopes and their walks are made of. -/
def stat2 : Obj → Bool
  | .map _ _ => true
  | .cells _ t _ => t == 87 || t == 89 || t == 71 || t == 93
  | _ => false
def Keeps2 (w w' : World) : Prop := ∀ (k : Nat) (o : Obj), w.heap[k]? = some o → stat2 o = true → w'.heap[k]? = some o
theorem Keeps2.one {w w' : World} (h : Keeps2 w w') : Keeps w w' := fun k o hk hs => h k o hk (by cases o <;> simp_all [stat, stat2])
theorem keeps2_set {w : World} {g i : Nat} {t : TypeId} {cs : Array Value} {v : Value} (hg : w.heap[g]? = some (.cells cs t (0, 0))) (ht : stat2 (.cells cs t (0, 0)) = false) : Keeps2 w (w.setCell ⟨g, i, none⟩ v) := by
  intro k o hk hs
  rw [heap_setCell_other w ⟨g, i, none⟩ k v (by intro e; change k = g at e; rw [e, hg] at hk; injection hk with hk; rw [← hk, ht] at hs; cases hs)]
  exact hk
theorem Att.keep {w w' : World} {B ab nn : Nat} {rs : List (ByteArray × Int)} {rb : Option Nat} (h : Att w B ab nn rs rb) (hk : Keeps2 w w') : Att w' B ab nn rs rb := by
  obtain ⟨na, nc, un, v, nx, ch, h1, h2, h3⟩ := h.ex
  refine ⟨na, nc, un, v, nx, ch, hk ab _ h1 rfl, ⟨h2.1, ?_⟩, h3⟩
  rcases h2.2 with h4 | ⟨g, cap, cur, hv, hbg, hg, r⟩
  · exact .inl h4
  · exact .inr ⟨g, cap, cur, hv, hbg, hk g _ hg rfl, r⟩
theorem Chain.keep {B : Nat} {w w' : World} {fs : List Fr} {j : Nat} {sb ab wm : Nat → Nat} {rb : Nat → Option Nat} {rs : Nat → List (ByteArray × Int)} (h : Chain B w fs j sb ab wm rb rs) (hk : Keeps2 w w') : Chain B w' fs j sb ab wm rb rs :=
  ⟨fun i h1 h2 => (h.sc i h1 h2).keep hk.one, fun i h1 h2 h3 => (h.att i h1 h2 h3).keep hk, h.losb, h.loab, h.nesb, h.neab⟩

/-- the row of scopes while it is filled from the end. -/
def ptrs (sb : Nat → Nat) (n q : Nat) : List Value := (List.range n).map (fun i => if q ≤ i then ptr (sb i) else .pointer none)
theorem ptrs_len (sb : Nat → Nat) (n q : Nat) : (ptrs sb n q).length = n := by simp [ptrs]
theorem ptrs_at (sb : Nat → Nat) (n q i : Nat) (h : i < n) : (ptrs sb n q)[i]? = some (if q ≤ i then ptr (sb i) else .pointer none) := by
  simp [ptrs, h]
theorem ptrs_full (sb : Nat → Nat) (n : Nat) : ptrs sb n n = List.replicate n (.pointer none) := by
  apply List.ext_getElem?
  intro i
  by_cases h : i < n
  · rw [ptrs_at _ _ _ _ h, if_neg (by omega), List.getElem?_replicate, if_pos h]
  · rw [List.getElem?_eq_none (by rw [ptrs_len]; omega), List.getElem?_eq_none (by simp; omega)]
theorem ptrs_set (sb : Nat → Nat) (n p s : Nat) (h : p < n) : (ptrs sb n (p + 1)).set p (ptr s) = ptrs (fun i => if i = p then s else sb i) n p := by
  apply List.ext_getElem?
  intro i
  by_cases hi : i < n
  · by_cases hp : p = i
    · subst hp
      rw [List.getElem?_set_self (by rw [ptrs_len]; omega), ptrs_at _ _ _ _ hi]; simp
    · rw [List.getElem?_set_ne hp, ptrs_at _ _ _ _ hi, ptrs_at _ _ _ _ hi]
      simp only [Ne.symm hp, if_false]
      by_cases hq : p + 1 ≤ i
      · rw [if_pos hq, if_pos (by omega)]
      · rw [if_neg hq, if_neg (by omega)]
  · rw [List.getElem?_eq_none (by simp [ptrs_len]; omega), List.getElem?_eq_none (by rw [ptrs_len]; omega)]

def rs0 (fs : List Fr) : Nat → List (ByteArray × Int) := fun i => if h : i < fs.length then fs[i].rn.zip fs[i].ra else []

structure Bld (w wr : World) (fs : List Fr) (q : Nat) (sb : Nat → Nat) : Prop where
  bel : Below w.heap.size w wr
  row : wr.heap[w.heap.size]? = some (.cells (ptrs sb fs.length q).toArray 31 (0, 0))
  ch : ∃ ab wm rb, Chain w.heap.size wr fs q sb ab wm rb (rs0 fs)

theorem bld_start (w : World) (fs : List Fr) : Bld w (w.alloc (.cells (List.replicate fs.length (.pointer none)).toArray 31)) fs fs.length (fun _ => 0) where
  bel := (Below.refl _ _).alloc (Nat.le_refl _) _
  row := by rw [ptrs_full]; exact heap_alloc_new w _
  ch := ⟨fun _ => 0, fun _ => 0, fun _ => none, fun i h1 h2 => by omega, fun i h1 h2 => by omega, fun i h1 h2 => by omega, fun i h1 h2 => by omega, fun i k h1 h2 h3 => by omega, fun i k h1 h2 h3 => by omega⟩

/-- one scope more. -/
theorem bld_step {w wr w1 w2 : World} {fs : List Fr} {p : Nat} {sb : Nat → Nat} {e : Ending} (R : Bld w wr fs (p + 1) sb) (hp : p < fs.length) (hL : Below wr.heap.size wr w1)
    (hN : NewPost (if p + 1 < fs.length then ptr (sb (p + 1)) else .pointer none) fs[p].vn fs[p].vb fs[p].dc fs[p].hw fs[p].nn fs[p].rn fs[p].ra w1 e w2) :
    ∃ s, e = .returned (ptr s) ∧ w2.cell? ⟨w.heap.size, p, none⟩ = some (.pointer none) ∧ w2.frozen? ⟨w.heap.size, p, none⟩ = false ∧
      Bld w (w2.setCell ⟨w.heap.size, p, none⟩ (ptr s)) fs p (fun i => if i = p then s else sb i) := by
  obtain ⟨ab, wm, rb, hch⟩ := R.ch
  have hsz : w.heap.size < wr.heap.size := (Array.getElem?_eq_some_iff.1 R.row).1
  have hs1 := hL.size
  obtain ⟨s, ab', wm', rb', he, hbel, hs, hch'⟩ := chain_cons hp (hch.below hL) (by omega) hN
  have hrow : w2.heap[w.heap.size]? = some (.cells (ptrs sb fs.length (p + 1)).toArray 31 (0, 0)) := by
    rw [hbel.block _ (by omega), hL.block _ hsz]; exact R.row
  refine ⟨s, he, ?_, free_at hrow p, ?_, ?_, ?_⟩
  · rw [cell_at hrow, ptrs_at _ _ _ _ hp, if_neg (by omega)]
  · exact (R.bel.trans ((hL.mono (by omega)).trans (hbel.mono (by omega)))).setCell (Nat.le_refl _) _
  · rw [heap_setCell_same w2 w.heap.size p _ 31 _ hrow, ← ptrs_set sb fs.length p s hp]
    simp
  · exact ⟨ab', wm', rb', hch'.keep (keeps2_set hrow rfl)⟩
end Go.Proofs.Qxb6602244a
