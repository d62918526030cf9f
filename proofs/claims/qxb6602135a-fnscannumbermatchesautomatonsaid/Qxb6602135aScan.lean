/-
  THE WALK OF scanNumber (16).
-/
import Derived.Test.Qxb6602135aSkip
import Derived.Test.Qxb6602135aScanPlain
import Derived.WalkKit
import Derived.ProofKit
import Derived.WalkSpells
import Derived.Deep.DeepCutAuto
import Derived.Deep.CutBlock
import Derived.Laws.RangeString
import Derived.Lib.Strings
namespace Go.Proofs.Qxb6602135a
open Go.ChangeShapes Go.WideShapes Go.ChangeAt Go.RowKit
open Plain (dg held run skip sgn ints frac expo)
set_option linter.unusedVariables false

/-- what scanNumber hands back. -/
def backN : Option (Bool × List UInt8 × Int) → Value
  | none => .tuple #[.agg #[.bool false, .string ⟨#[]⟩, .int .i64 0], .bool false]
  | some (ng, b, e) => .tuple #[.agg #[.bool ng, .string ⟨b.toArray⟩, .int .i64 e], .bool true]

/-- the two blocks of the call's own. -/
def W2 (w : World) (ng : Bool) : World := (w.alloc (.cells #[.bool false, .string ⟨#[]⟩, .int .i64 0] 29)).alloc (.cells #[.bool ng, .string ⟨#[]⟩, .int .i64 0] 29)

/-- 'i < len(s) && s[i] == n'. -/
def isAt (s : ByteArray) (i : Nat) (n : Int) : Bool := if h : i < s.size then ((s[i].toNat : Int) == n) else false
theorem isAt_in {s : ByteArray} {i : Nat} {n : Int} (h : i < s.size) : isAt s i n = ((s[i].toNat : Int) == n) := by unfold isAt; rw [dif_pos h]
theorem isAt_out {s : ByteArray} {i : Nat} {n : Int} (h : ¬ i < s.size) : isAt s i n = false := by unfold isAt; rw [dif_neg h]
theorem isAt_yes {s : ByteArray} {i : Nat} {c : UInt8} (h : isAt s i c.toNat = true) : i < s.size ∧ s.data.toList.drop i = c :: s.data.toList.drop (i + 1) := by
  by_cases hi : i < s.size
  · rw [isAt_in hi, beq_iff_eq] at h
    refine ⟨hi, ?_⟩
    rw [Plain.drop_at s i hi]
    congr 1
    exact UInt8.toNat_inj.1 (by omega)
  · rw [isAt_out hi] at h; cases h

theorem sgn_at (s : ByteArray) (b : Bool) (h : isAt s 0 45 = b) : sgn s.data.toList = (b, s.data.toList.drop (if b then 1 else 0)) := by
  cases b with
  | true =>
    have := (isAt_yes (c := 45) h).2
    rw [List.drop_zero] at this
    rw [this]; simp [sgn]
  | false =>
    by_cases hi : 0 < s.size
    · rw [isAt_in hi] at h
      have := Plain.drop_at s 0 hi
      rw [List.drop_zero] at this
      rw [this]
      have hne : ¬ s[0] = 45 := by intro e; rw [e] at h; revert h; decide
      simp [sgn, hne]
    · have : s.data.toList = [] := by
        have := Plain.drop_past s 0 (by omega)
        simpa using this
      rw [this]; simp [sgn]

/-- the integer part: a lone nought. -/
theorem ints_zero {s : ByteArray} {i : Nat} (h : i < s.size) (h1 : (48 : Int) ≤ s[i].toNat) (h2 : (s[i].toNat : Int) ≤ 48) :
    ints (s.data.toList.drop i) = some ((s.data.toList.drop i).take (i + 1 - i), s.data.toList.drop (i + 1)) := by
  rw [Plain.drop_at s i h]
  have e : s[i] = 48 := UInt8.toNat_inj.1 (by show s[i].toNat = 48; omega)
  rw [show i + 1 - i = 1 from by omega]
  simp [ints, e]
/-- the integer part: digits. -/
theorem ints_digs {s : ByteArray} {i : Nat} (h : i < s.size) (h1 : (49 : Int) ≤ s[i].toNat) (h2 : (s[i].toNat : Int) ≤ 57) :
    ints (s.data.toList.drop i) = some ((s.data.toList.drop i).take (skip s i - i), s.data.toList.drop (skip s i)) := by
  have e : ¬ s[i] = 48 := by intro e; rw [e] at h1; revert h1; decide
  have hd := Plain.dg_yes (c := s[i]) (by omega) h2
  unfold skip
  rw [← List.drop_drop, show i + run (s.data.toList.drop i) - i = run (s.data.toList.drop i) from by omega]
  rw [Plain.drop_at s i h]
  simp only [ints, e, hd, if_false, if_true]
theorem ints_not {s : ByteArray} {i : Nat} (h : ∀ (h : i < s.size), (s[i].toNat : Int) < 48 ∨ 57 < (s[i].toNat : Int)) : ints (s.data.toList.drop i) = none := by
  by_cases hi : i < s.size
  · rw [Plain.drop_at s i hi]
    have e : ¬ s[i] = 48 := by intro e; have := h hi; rw [e] at this; revert this; decide
    have hd := Plain.dg_no (c := s[i]) (by have := h hi; omega)
    simp [ints, e, hd]
  · rw [Plain.drop_past s i (by omega)]; rfl

theorem scan_of {lim : Nat} {l r : List UInt8} {ng : Bool} (h : sgn l = (ng, r)) : Plain.scan lim l = Plain.itail lim ng (ints r) := by
  unfold Plain.scan; rw [h]

theorem isAt_no {s : ByteArray} {i : Nat} {c : UInt8} (h : isAt s i c.toNat = false) (hi : i < s.size) : ¬ s[i] = c := by
  intro e; rw [isAt_in hi, e] at h; simp at h

/-- the fraction: none. -/
theorem frac_no {s : ByteArray} {j : Nat} (h : isAt s j 46 = false) : frac (s.data.toList.drop j) = some ([], s.data.toList.drop j) := by
  by_cases hj : j < s.size
  · rw [Plain.drop_at s j hj]
    have hne := isAt_no (c := 46) h hj
    simp [frac, hne]
  · rw [Plain.drop_past s j (by omega)]; rfl
theorem frac_bad {s : ByteArray} {j : Nat} (h : isAt s j 46 = true) (he : skip s (j + 1) = j + 1) : frac (s.data.toList.drop j) = none := by
  rw [(isAt_yes (c := 46) h).2]
  unfold skip at he
  have : run (s.data.toList.drop (j + 1)) = 0 := by omega
  simp [frac, this]
theorem frac_yes {s : ByteArray} {j : Nat} (h : isAt s j 46 = true) (he : ¬ skip s (j + 1) = j + 1) :
    frac (s.data.toList.drop j) = some ((s.extract (j + 1) (skip s (j + 1))).data.toList, s.data.toList.drop (skip s (j + 1))) := by
  rw [(isAt_yes (c := 46) h).2, Lib.extract_data]
  unfold skip at he ⊢
  have : ¬ run (s.data.toList.drop (j + 1)) = 0 := by omega
  rw [← List.drop_drop (i := run (s.data.toList.drop (j + 1)))]
  simp only [frac, this, if_true, if_false]
  rw [show j + 1 + run (s.data.toList.drop (j + 1)) - (j + 1) = run (s.data.toList.drop (j + 1)) from by omega]

/-- an exponent's marker. -/
def isE (s : ByteArray) (j : Nat) : Bool := isAt s j 101 || isAt s j 69
theorem expo_no {lim : Nat} {s : ByteArray} {j : Nat} (h : isE s j = false) : expo lim (s.data.toList.drop j) = some (0, s.data.toList.drop j) := by
  unfold isE at h
  rw [Bool.or_eq_false_iff] at h
  by_cases hj : j < s.size
  · rw [Plain.drop_at s j hj]
    have h1 := isAt_no (c := 101) h.1 hj
    have h2 := isAt_no (c := 69) h.2 hj
    simp [expo, h1, h2]
  · rw [Plain.drop_past s j (by omega)]; rfl
theorem isE_lt {s : ByteArray} {j : Nat} (h : isE s j = true) : j < s.size := by
  unfold isE at h
  rw [Bool.or_eq_true] at h
  rcases h with h | h
  · exact (isAt_yes (c := 101) h).1
  · exact (isAt_yes (c := 69) h).1
theorem expo_yes {lim : Nat} {s : ByteArray} {j : Nat} (h : isE s j = true) : expo lim (s.data.toList.drop j) = Plain.edig lim (Plain.esgn (s.data.toList.drop (j + 1))).1 (Plain.esgn (s.data.toList.drop (j + 1))).2 := by
  unfold isE at h
  rw [Bool.or_eq_true] at h
  rcases h with h | h
  · rw [(isAt_yes (c := 101) h).2]; simp [expo]
  · rw [(isAt_yes (c := 69) h).2]; simp [expo]
theorem esgn_no {s : ByteArray} {j : Nat} (h : (isAt s j 45 || isAt s j 43) = false) : Plain.esgn (s.data.toList.drop j) = (false, s.data.toList.drop j) := by
  rw [Bool.or_eq_false_iff] at h
  by_cases hj : j < s.size
  · rw [Plain.drop_at s j hj]
    have h1 := isAt_no (c := 45) h.1 hj
    have h2 := isAt_no (c := 43) h.2 hj
    simp [Plain.esgn, h1, h2]
  · rw [Plain.drop_past s j (by omega)]; rfl
theorem esgn_yes {s : ByteArray} {j : Nat} (h : (isAt s j 45 || isAt s j 43) = true) : j < s.size ∧ Plain.esgn (s.data.toList.drop j) = (isAt s j 45, s.data.toList.drop (j + 1)) := by
  rw [Bool.or_eq_true] at h
  by_cases h1 : isAt s j 45 = true
  · have := isAt_yes (c := 45) h1
    rw [this.2, h1]; exact ⟨this.1, by simp [Plain.esgn]⟩
  · rcases h with h | h
    · exact absurd h h1
    · have := isAt_yes (c := 43) h
      rw [this.2, show isAt s j 45 = false from by simpa using h1]; exact ⟨this.1, by simp [Plain.esgn]⟩
theorem edig_bad {lim : Nat} {s : ByteArray} {en : Bool} {q : Nat} (he : skip s q = q) : Plain.edig lim en (s.data.toList.drop q) = none := by
  unfold skip at he
  have : run (s.data.toList.drop q) = 0 := by omega
  simp [Plain.edig, this]
theorem edig_ok {lim : Nat} {s : ByteArray} {en : Bool} {q : Nat} (he : ¬ skip s q = q) : Plain.edig lim en (s.data.toList.drop q) = some (Plain.sig en (held lim (s.extract q (skip s q)).data.toList), s.data.toList.drop (skip s q)) := by
  rw [Lib.extract_data]
  unfold skip at he ⊢
  have : ¬ run (s.data.toList.drop q) = 0 := by omega
  rw [← List.drop_drop (i := run (s.data.toList.drop q))]
  simp only [Plain.edig, this, if_false]
  rw [show q + run (s.data.toList.drop q) - q = run (s.data.toList.drop q) from by omega]
theorem run_dg : ∀ (l : List UInt8), ∀ c ∈ l.take (run l), dg c = true := by
  intro l
  induction l with
  | nil => intro c h; simp at h
  | cons d t ih =>
    intro c h
    simp only [run] at h
    by_cases hd : dg d = true
    · rw [if_pos hd] at h
      simp at h
      rcases h with h | h
      · rw [h]; exact hd
      · exact ih c h
    · rw [if_neg hd] at h; simp at h
theorem ex_dg (s : ByteArray) (q : Nat) : ∀ (p : Nat) (h : p < (s.extract q (skip s q)).size), (48 : Int) ≤ ((s.extract q (skip s q))[p].toNat : Int) ∧ ((s.extract q (skip s q))[p].toNat : Int) ≤ 57 := by
  intro p h
  refine (Plain.dg_iff _).1 (run_dg (s.data.toList.drop q) _ ?_)
  have e := Lib.extract_data s q (skip s q)
  rw [show skip s q - q = run (s.data.toList.drop q) from by unfold skip; omega] at e
  rw [← e]
  exact List.getElem_mem (l := (s.extract q (skip s q)).data.toList) (by have h' := h; simp at h' ⊢; omega)
theorem held_le (lim : Nat) (l : List UInt8) : held lim l ≤ lim := by rw [Plain.held_eq]; omega
theorem held_snoc (lim : Nat) (l : List UInt8) (c : UInt8) : held lim (l ++ [c]) = min (held lim l * 10 + (c.toNat - 48)) lim := by
  unfold held; simp
theorem take_snoc' (s : ByteArray) (k : Nat) (h : k < s.size) : s.data.toList.take (k + 1) = s.data.toList.take k ++ [s[k]] := by
  rw [List.take_succ_eq_append_getElem (by simpa using h)]; rfl

end Go.Proofs.Qxb6602135a
