/-
  PLAIN LAWS OF THIS SEAT: no Go in sight. Runs of ASCII digits in a text.
-/
namespace Go.Proofs.Qxb6602135a.Plain

/-- an ASCII digit. -/
def dg (c : UInt8) : Bool := decide (48 ≤ c.toNat ∧ c.toNat ≤ 57)

/-- how many digits a text begins with. -/
def run : List UInt8 → Nat
  | [] => 0
  | c :: l => if dg c then run l + 1 else 0

/-- the first place at or behind i that holds no digit (i itself beyond the end). -/
def skip (s : ByteArray) (i : Nat) : Nat := i + run (s.data.toList.drop i)

theorem dg_yes {c : UInt8} (h : (48 : Int) ≤ (c.toNat : Int)) (h' : (c.toNat : Int) ≤ 57) : dg c = true := by
  unfold dg; simp; omega
theorem dg_no {c : UInt8} (h : ¬ ((48 : Int) ≤ (c.toNat : Int) ∧ (c.toNat : Int) ≤ 57)) : dg c = false := by
  unfold dg; simp; omega
theorem dg_iff (c : UInt8) : dg c = true ↔ (48 : Int) ≤ (c.toNat : Int) ∧ (c.toNat : Int) ≤ 57 := by
  unfold dg; simp; omega

theorem drop_at (s : ByteArray) (i : Nat) (h : i < s.size) : s.data.toList.drop i = s[i] :: s.data.toList.drop (i + 1) := by
  rw [List.drop_eq_getElem_cons (by simpa using h)]; rfl
theorem drop_past (s : ByteArray) (i : Nat) (h : s.size ≤ i) : s.data.toList.drop i = [] := by
  apply List.drop_eq_nil_of_le; simpa using h

theorem run_le (l : List UInt8) : run l ≤ l.length := by
  induction l with
  | nil => simp [run]
  | cons c l ih => simp only [run, List.length_cons]; split <;> omega

theorem skip_past (s : ByteArray) (i : Nat) (h : s.size ≤ i) : skip s i = i := by
  unfold skip; rw [drop_past s i h]; simp [run]
theorem skip_hit (s : ByteArray) (i : Nat) (h : i < s.size) (hd : dg s[i] = true) : skip s i = skip s (i + 1) := by
  unfold skip; rw [drop_at s i h]; simp [run, hd]; omega
theorem skip_miss (s : ByteArray) (i : Nat) (h : i < s.size) (hd : dg s[i] = false) : skip s i = i := by
  unfold skip; rw [drop_at s i h]; simp [run, hd]
theorem skip_ge (s : ByteArray) (i : Nat) : i ≤ skip s i := by unfold skip; omega
theorem skip_le (s : ByteArray) (i : Nat) (h : i ≤ s.size) : skip s i ≤ s.size := by
  unfold skip
  have := run_le (s.data.toList.drop i)
  simp at this
  omega

theorem run_app (l : List UInt8) : ∀ k, k ≤ run l → run (l.drop k) + k = run l := by
  induction l with
  | nil => intro k h; simp [run] at h; subst h; simp [run]
  | cons c l ih =>
    intro k h
    cases k with
    | zero => simp
    | succ k =>
      simp only [run] at h ⊢
      by_cases hd : dg c = true
      · rw [if_pos hd] at h ⊢
        simp only [List.drop_succ_cons]
        have := ih k (by omega)
        omega
      · rw [if_neg hd] at h; omega

/-- one run, one end. -/
theorem skip_in (s : ByteArray) (i j : Nat) (h : i ≤ j) (h' : j ≤ skip s i) : skip s j = skip s i := by
  unfold skip at *
  have := run_app (s.data.toList.drop i) (j - i) (by omega)
  rw [List.drop_drop, show i + (j - i) = j from by omega] at this
  omega
theorem skip_idem (s : ByteArray) (i : Nat) : skip s (skip s i) = skip s i := skip_in s i _ (skip_ge s i) (Nat.le_refl _)
theorem skip_mono (s : ByteArray) (i j : Nat) (h : i ≤ j) : skip s i ≤ skip s j := by
  by_cases h' : j ≤ skip s i
  · rw [skip_in s i j h h']; omega
  · have := skip_ge s j; omega
end Go.Proofs.Qxb6602135a.Plain
