/-
  A CHAIN, AND saw ON ONE OF ITS SCOPES.
-/
import Derived.Test.Qxb6602244aChain
import Derived.LaidEql
namespace Go.Proofs.Qxb6602244a
open Go.ChangeShapes Go.WideShapes Go.ChangeAt Go.RowKit
set_option linter.unusedVariables false

/-- all but walks and their rows stays. -/
def rest : Obj → Bool
  | .cells _ t _ => !(t == 71 || t == 93)
  | _ => true
def Rest (w w' : World) : Prop := ∀ (k : Nat) (o : Obj), w.heap[k]? = some o → rest o = true → w'.heap[k]? = some o
theorem Rest.refl (w : World) : Rest w w := fun _ _ h _ => h
theorem Rest.trans {a b c : World} (h : Rest a b) (k : Rest b c) : Rest a c := fun i o hi hs => k i o (h i o hi hs) hs
theorem Rest.chg {w w' : World} {ab : Nat} {rb : Option Nat} {ca : Array Value} (h : Chg w w' ab rb) (ha : w.heap[ab]? = some (.cells ca 71 (0, 0))) (hr : ∀ q, rb = some q → ∃ cr, w.heap[q]? = some (.cells cr 93 (0, 0))) : Rest w w' := by
  intro k o hk hs
  rw [h.block k (Array.getElem?_eq_some_iff.1 hk).1 ?_ ?_]
  · exact hk
  · intro e; rw [e, ha] at hk; injection hk with hk; subst hk; simp [rest] at hs
  · intro e; obtain ⟨cr, hcr⟩ := hr k e.symm; rw [hcr] at hk; injection hk with hk; subst hk; simp [rest] at hs
theorem Rest.keeps {w w' : World} (h : Rest w w') : Keeps w w' := fun k o hk hs => h k o hk (by
  cases o <;> simp_all [stat, rest]
  rcases hs with e | e <;> simp [e])

/-- the read of scope i is noted. -/
def note1 (fs : List Fr) (name : ByteArray) (i : Nat) (rs : Nat → List (ByteArray × Int)) : Nat → List (ByteArray × Int) :=
  fun m => if h : m < fs.length then (if m = i ∧ fs[m].hw = true then rs m ++ [(name, (fs[m].nn.toNat : Int))] else rs m) else rs m

theorem Att.rows {w : World} {B ab nn : Nat} {rs : List (ByteArray × Int)} {rb : Option Nat} (h : Att w B ab nn rs rb) : (∃ ca, w.heap[ab]? = some (.cells ca 71 (0, 0))) ∧ ∀ q, rb = some q → ∃ cr, w.heap[q]? = some (.cells cr 93 (0, 0)) := by
  obtain ⟨na, nc, un, v, nx, ch, h1, h2, h3⟩ := h.ex
  exact ⟨⟨_, h1⟩, fun q hq => own_block h2 (h3.trans hq)⟩

theorem Att.chg {w w' : World} {B ab nn ab' : Nat} {rs : List (ByteArray × Int)} {rb rb' : Option Nat} {ca : Array Value} (h : Att w B ab nn rs rb) (hc : Chg w w' ab' rb') (h1 : ab ≠ ab') (h2 : rb = none ∨ rb ≠ rb')
    (ha : w.heap[ab']? = some (.cells ca 71 (0, 0))) (hr : ∀ q, rb' = some q → ∃ cr, w.heap[q]? = some (.cells cr 93 (0, 0))) : Att w' B ab nn rs rb := by
  obtain ⟨na, nc, un, v, nx, ch, k1, k2, k3⟩ := h.ex
  refine ⟨na, nc, un, v, nx, ch, ?_, ⟨k2.1, ?_⟩, k3⟩
  · rw [hc.block ab (Array.getElem?_eq_some_iff.1 k1).1 h1 ?_]
    · exact k1
    · intro e; obtain ⟨cr, hcr⟩ := hr ab e.symm; rw [hcr] at k1; simp at k1
  · rcases k2.2 with h4 | ⟨g, cap, cur, hv, hbg, hg, r⟩
    · exact .inl h4
    · refine .inr ⟨g, cap, cur, hv, hbg, ?_, r⟩
      have hrb : rb = some g := by rw [← k3, hv]; rfl
      rw [hc.block g (Array.getElem?_eq_some_iff.1 hg).1 ?_ ?_]
      · exact hg
      · intro e; rw [e, ha] at hg; simp at hg
      · rw [← hrb]
        rcases h2 with h2 | h2
        · rw [hrb] at h2; cases h2
        · exact h2

/-- saw, on scope i of a chain. -/
theorem saw_chain {B : Nat} {w : World} {fs : List Fr} {sb ab wm : Nat → Nat} {rb : Nat → Option Nat} {rs : Nat → List (ByteArray × Int)} (hC : Chain B w fs 0 sb ab wm rb rs) (i : Nat) (hi : i < fs.length) (name : ByteArray)
    (hn : (rs i).length ≤ 4194304) (hB : B ≤ w.heap.size) :
    Calls Try.prog 51 #[.pointer (some ⟨sb i, 0, none⟩), .string name] w fun e w' => e = .returned (.tuple #[]) ∧ ∃ rb', Chain B w' fs 0 sb ab wm rb' (note1 fs name i rs) ∧ Rest w w' ∧ Below B w w' := by
  obtain ⟨vm, dm, hsc, _, _⟩ := (hC.sc i (Nat.zero_le _) hi).ex
  unfold scCells at hsc
  have c6 := cell_at (cs := [_, _, _, _, _, _, _, _, _, _]) hsc 6
  simp only [List.getElem?_cons_succ, List.getElem?_cons_zero] at c6
  cases hwk : fs[i].hw with
  | false =>
    rw [hwk] at c6
    simp only [Bool.false_eq_true, if_false] at c6
    refine (saw_nil (sb i) name w c6).mono ?_
    rintro e w' ⟨rfl, rfl⟩
    have e1 : note1 fs name i rs = rs := by
      funext m
      unfold note1
      by_cases hm : m < fs.length
      · rw [dif_pos hm]
        by_cases e : m = i
        · subst e; rw [if_neg (by rw [hwk]; simp)]
        · rw [if_neg (fun h => e h.1)]
      · rw [dif_neg hm]
    exact ⟨rfl, rb, by rw [e1]; exact hC, Rest.refl _, Below.refl _ _⟩
  | true =>
    rw [hwk] at c6
    simp only [if_true] at c6
    have hA := hC.att i (Nat.zero_le _) hi hwk
    obtain ⟨⟨ca, hca⟩, hra⟩ := hA.rows
    refine (saw_walk (sb i) B (ab i) fs[i].nn.toNat (rs i) (rb i) name w c6 hA hn hB).mono ?_
    rintro e w' ⟨rfl, rb', hA', hrb', hch⟩
    have hrest := Rest.chg hch hca hra
    refine ⟨rfl, fun m => if m = i then rb' else rb m, ⟨?_, ?_, hC.losb, hC.loab, hC.nesb, ?_⟩, hrest, ?_⟩
    · intro m h1 h2; exact (hC.sc m h1 h2).keep hrest.keeps
    · intro m h1 h2 h3
      unfold note1
      rw [dif_pos h2]
      by_cases e : m = i
      · subst e
        rw [if_pos ⟨rfl, h3⟩]; simp only [if_true]; exact hA'
      · rw [if_neg (fun h => e h.1)]
        simp only [e, if_false]
        rcases Nat.lt_or_gt_of_ne e with hlt | hgt
        · obtain ⟨n1, n2⟩ := hC.neab m i (Nat.zero_le _) hlt h2 hi h3 hwk
          exact (hC.att m h1 h2 h3).chg hch n1 n2 hca hra
        · obtain ⟨n1, n2⟩ := hC.neab i m (Nat.zero_le _) hgt hi h2 hwk h3
          refine (hC.att m h1 h2 h3).chg hch (Ne.symm n1) ?_ hca hra
          cases hq : rb m with
          | none => exact .inl rfl
          | some q =>
            right
            rcases n2 with n2 | n2
            · rw [n2]; simp
            · rw [← hq]; exact Ne.symm n2
    · intro m k h1 h2 h3 h4 h5 h6
      obtain ⟨n1, n2⟩ := hC.neab m k h1 h2 h3 h4 h5 h6
      refine ⟨n1, ?_⟩
      by_cases em : m = i
      · have ek : ¬ k = i := by omega
        simp only [em, if_true, ek, if_false]
        rcases hrb' with hr | ⟨q, hr, hq⟩
        · rw [hr, ← em]; exact n2
        · right
          rw [hr]
          intro e
          have := ((hC.att k (Nat.zero_le _) h4 h6).lt.2 q e.symm).2
          omega
      · simp only [em, if_false]
        by_cases ek : k = i
        · simp only [ek, if_true]
          rcases hrb' with hr | ⟨q, hr, hq⟩
          · rw [hr, ← ek]; exact n2
          · cases hq2 : rb m with
            | none => exact .inl rfl
            | some q2 =>
              right
              rw [hr]
              intro e
              injection e with e
              have := ((hC.att m h1 h3 h5).lt.2 q2 hq2).2
              omega
        · simp only [ek, if_false]; exact n2
    · exact ⟨hch.os, hch.tape, hch.output, hch.size, fun k hk => by
        have hlo := hC.loab i (Nat.zero_le _) hi hwk
        rw [hch.block k (by omega) (by omega) (by intro e; have := (hA.lt.2 k e.symm).1; omega)]⟩
end Go.Proofs.Qxb6602244a
