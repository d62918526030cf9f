/-
  PLAIN LAWS OF THIS SEAT: no Go in sight. A JSON number read in parts ('scan') and by an automaton ('auto'): one answer.
-/
import Derived.Test.Qxb6602135aPlain
namespace Go.Proofs.Qxb6602135a.Plain
set_option linter.unusedSimpArgs false

/-! ### the number read in parts -/
def sgn : List UInt8 → Bool × List UInt8
  | [] => (false, [])
  | c :: t => if c = 45 then (true, t) else (false, c :: t)
def ints : List UInt8 → Option (List UInt8 × List UInt8)
  | [] => none
  | c :: t => if c = 48 then some ([c], t) else if dg c then some ((c :: t).take (run (c :: t)), (c :: t).drop (run (c :: t))) else none
def frac : List UInt8 → Option (List UInt8 × List UInt8)
  | [] => some ([], [])
  | c :: t => if c = 46 then (if run t = 0 then none else some (t.take (run t), t.drop (run t))) else some ([], c :: t)
/-- an exponent's sign. -/
def esgn : List UInt8 → Bool × List UInt8
  | [] => (false, [])
  | c :: t => if c = 45 then (true, t) else if c = 43 then (false, t) else (false, c :: t)
/-- digits read from the left, held at lim. -/
def held (lim : Nat) (ds : List UInt8) : Nat := ds.foldl (fun v c => min (v * 10 + (c.toNat - 48)) lim) 0
def sig (b : Bool) (n : Nat) : Int := if b then -(n : Int) else (n : Int)
def edig (lim : Nat) (b : Bool) (l : List UInt8) : Option (Int × List UInt8) :=
  if run l = 0 then none else some (sig b (held lim (l.take (run l))), l.drop (run l))
def expo (lim : Nat) : List UInt8 → Option (Int × List UInt8)
  | [] => some (0, [])
  | c :: t => if c = 101 ∨ c = 69 then edig lim (esgn t).1 (esgn t).2 else some (0, c :: t)
def fin (ng : Bool) (b : List UInt8) (f : Nat) : Option (Int × List UInt8) → Option (Bool × List UInt8 × Int)
  | none => none
  | some (e, l) => if l = [] then some (ng, b, e - f) else none
def ftail (lim : Nat) (ng : Bool) (i : List UInt8) : Option (List UInt8 × List UInt8) → Option (Bool × List UInt8 × Int)
  | none => none
  | some (f, l) => fin ng (i ++ f) f.length (expo lim l)
def itail (lim : Nat) (ng : Bool) : Option (List UInt8 × List UInt8) → Option (Bool × List UInt8 × Int)
  | none => none
  | some (i, l) => ftail lim ng i (frac l)
def scan (lim : Nat) (l : List UInt8) : Option (Bool × List UInt8 × Int) := itail lim (sgn l).1 (ints (sgn l).2)

/-! ### the automaton -/
structure St where
  st : Nat
  ng : Bool
  en : Bool
  body : List UInt8
  ed : List UInt8
  fr : Nat

def mk (c : UInt8) : Bool := decide (c = 101 ∨ c = 69)

def step (x : St) (c : UInt8) : Option St :=
  match x.st with
  | 0 => if c = 45 then some { x with st := 1, ng := true } else if c = 48 then some { x with st := 2, body := x.body ++ [c] } else if dg c then some { x with st := 3, body := x.body ++ [c] } else none
  | 1 => if c = 48 then some { x with st := 2, body := x.body ++ [c] } else if dg c then some { x with st := 3, body := x.body ++ [c] } else none
  | 2 => if c = 46 then some { x with st := 4 } else if mk c then some { x with st := 6 } else none
  | 3 => if dg c then some { x with st := 3, body := x.body ++ [c] } else if c = 46 then some { x with st := 4 } else if mk c then some { x with st := 6 } else none
  | 4 => if dg c then some { x with st := 5, body := x.body ++ [c], fr := x.fr + 1 } else none
  | 5 => if dg c then some { x with st := 5, body := x.body ++ [c], fr := x.fr + 1 } else if mk c then some { x with st := 6 } else none
  | 6 => if c = 43 then some { x with st := 7 } else if c = 45 then some { x with st := 7, en := true } else if dg c then some { x with st := 8, ed := x.ed ++ [c] } else none
  | 7 => if dg c then some { x with st := 8, ed := x.ed ++ [c] } else none
  | 8 => if dg c then some { x with st := 8, ed := x.ed ++ [c] } else none
  | _ => none

def runs (x : St) : List UInt8 → Option St
  | [] => some x
  | c :: t => match step x c with
    | none => none
    | some y => runs y t

def start : St := ⟨0, false, false, [], [], 0⟩

/-- what the automaton answers of its last state. -/
def ends (lim : Nat) (x : St) : Option (Bool × List UInt8 × Int) :=
  if x.st = 2 ∨ x.st = 3 ∨ x.st = 5 ∨ x.st = 8 then some (x.ng, x.body, sig x.en (held lim x.ed) - x.fr) else none
def endsO (lim : Nat) : Option St → Option (Bool × List UInt8 × Int)
  | none => none
  | some x => ends lim x
def go (lim : Nat) (x : St) (l : List UInt8) : Option (Bool × List UInt8 × Int) := endsO lim (runs x l)
def auto (lim : Nat) (l : List UInt8) : Option (Bool × List UInt8 × Int) := go lim start l

theorem go_nil (lim : Nat) (x : St) : go lim x [] = ends lim x := rfl
theorem go_cons (lim : Nat) (x : St) (c : UInt8) (t : List UInt8) : go lim x (c :: t) = match step x c with | none => none | some y => go lim y t := by
  unfold go; simp only [runs]; cases step x c <;> rfl

/-! ### from the end to the start -/
theorem go8 (lim : Nat) (ng en : Bool) (b : List UInt8) (f : Nat) : ∀ (l ed : List UInt8),
    go lim ⟨8, ng, en, b, ed, f⟩ l = fin ng b f (some (sig en (held lim (ed ++ l.take (run l))), l.drop (run l))) := by
  intro l
  induction l with
  | nil => intro ed; simp [go_nil, ends, fin, run]
  | cons c t ih =>
    intro ed
    rw [go_cons]
    by_cases hd : dg c = true
    · simp only [step, hd, if_true, run, List.take_succ_cons, List.drop_succ_cons]
      rw [ih]; simp
    · simp [step, hd, run, fin]

theorem go7 (lim : Nat) (ng en : Bool) (b : List UInt8) (f : Nat) (l : List UInt8) :
    go lim ⟨7, ng, en, b, [], f⟩ l = fin ng b f (edig lim en l) := by
  cases l with
  | nil => simp [go_nil, ends, fin, run, edig]
  | cons c t =>
    rw [go_cons]
    by_cases hd : dg c = true
    · simp only [step, hd, if_true, List.nil_append]
      rw [go8]
      simp [edig, run, hd]
    · simp [step, hd, run, fin, edig]

theorem go6 (lim : Nat) (ng : Bool) (b : List UInt8) (f : Nat) (l : List UInt8) :
    go lim ⟨6, ng, false, b, [], f⟩ l = fin ng b f (edig lim (esgn l).1 (esgn l).2) := by
  cases l with
  | nil => simp [go_nil, ends, fin, run, edig, esgn]
  | cons c t =>
    rw [go_cons]
    by_cases h1 : c = 43
    · subst h1; simp only [step, if_true, esgn]; exact go7 lim ng false b f t
    · by_cases h2 : c = 45
      · subst h2; simp only [step, esgn, if_true]; exact go7 lim ng true b f t
      · simp only [step, h1, h2, if_false, esgn]
        rw [← go7, go_cons]
        simp only [step]

theorem go5 (lim : Nat) (ng : Bool) : ∀ (l b : List UInt8) (f : Nat),
    go lim ⟨5, ng, false, b, [], f⟩ l = fin ng (b ++ l.take (run l)) (f + run l) (expo lim (l.drop (run l))) := by
  intro l
  induction l with
  | nil => intro b f; simp [go_nil, ends, fin, run, expo, sig, held]
  | cons c t ih =>
    intro b f
    rw [go_cons]
    by_cases hd : dg c = true
    · simp only [step, hd, if_true, run, List.take_succ_cons, List.drop_succ_cons]
      rw [ih]; simp; congr 1; omega
    · simp only [step, hd, Bool.false_eq_true, if_false, run, List.take_zero, List.drop_zero, List.append_nil, Nat.add_zero, expo, mk]
      by_cases hm : c = 101 ∨ c = 69
      · simp only [hm, decide_true, if_true]; exact go6 lim ng b f t
      · simp [hm, fin]

theorem go4 (lim : Nat) (ng : Bool) (b l : List UInt8) :
    go lim ⟨4, ng, false, b, [], 0⟩ l = ftail lim ng b (if run l = 0 then none else some (l.take (run l), l.drop (run l))) := by
  cases l with
  | nil => simp [go_nil, ends, run, ftail]
  | cons c t =>
    rw [go_cons]
    by_cases hd : dg c = true
    · simp only [step, hd, if_true, run]
      rw [go5]
      have := run_le t
      simp only [ftail, Nat.add_eq_zero_iff, Nat.one_ne_zero, and_false, if_false, List.take_succ_cons, List.drop_succ_cons, List.append_assoc, List.cons_append, List.nil_append, List.length_cons, List.length_take]
      congr 1; omega
    · simp [step, hd, run, ftail]

theorem go2 (lim : Nat) (ng : Bool) (b l : List UInt8) : go lim ⟨2, ng, false, b, [], 0⟩ l = ftail lim ng b (frac l) := by
  cases l with
  | nil => simp [go_nil, ends, ftail, frac, fin, expo, sig, held]
  | cons c t =>
    rw [go_cons]
    by_cases h1 : c = 46
    · subst h1; simp only [step, if_true, frac]; exact go4 lim ng b t
    · simp only [step, h1, if_false, frac, ftail, List.append_nil, List.length_nil, expo, mk]
      by_cases hm : c = 101 ∨ c = 69
      · simp only [hm, decide_true, if_true]; exact go6 lim ng b 0 t
      · simp [hm, fin]

theorem go3 (lim : Nat) (ng : Bool) : ∀ (l b : List UInt8),
    go lim ⟨3, ng, false, b, [], 0⟩ l = ftail lim ng (b ++ l.take (run l)) (frac (l.drop (run l))) := by
  intro l
  induction l with
  | nil => intro b; simp [go_nil, ends, ftail, frac, fin, run, expo, sig, held]
  | cons c t ih =>
    intro b
    rw [go_cons]
    by_cases hd : dg c = true
    · simp only [step, hd, if_true, run, List.take_succ_cons, List.drop_succ_cons]
      rw [ih]; simp
    · simp only [step, hd, Bool.false_eq_true, if_false, run, List.take_zero, List.drop_zero, List.append_nil]
      rw [← go2, go_cons]
      simp only [step]

theorem go1 (lim : Nat) (ng : Bool) (l : List UInt8) : go lim ⟨1, ng, false, [], [], 0⟩ l = itail lim ng (ints l) := by
  cases l with
  | nil => simp [go_nil, ends, itail, ints]
  | cons c t =>
    rw [go_cons]
    by_cases h1 : c = 48
    · subst h1; simp only [step, if_true, ints, itail, List.nil_append]; exact go2 lim ng _ t
    · by_cases hd : dg c = true
      · simp only [step, h1, hd, if_false, if_true, ints, itail, List.nil_append]
        rw [go3]; simp [run, hd]
      · simp [step, h1, hd, ints, itail]

/-- ONE ANSWER. -/
theorem auto_scan (lim : Nat) (l : List UInt8) : auto lim l = scan lim l := by
  unfold auto scan start
  cases l with
  | nil => simp [go_nil, ends, itail, ints, sgn]
  | cons c t =>
    rw [go_cons]
    by_cases h1 : c = 45
    · subst h1; simp only [step, sgn, if_true]; exact go1 lim true t
    · simp only [step, sgn, h1, if_false]
      rw [← go1, go_cons]
      simp only [step]

/-! ### an exponent's digits, held at a limit -/
def vals (a : Nat) (ds : List UInt8) : Nat := ds.foldl (fun v c => v * 10 + (c.toNat - 48)) a
/-- how many noughts a text begins with. -/
def z0 : List UInt8 → Nat
  | [] => 0
  | c :: t => if c = 48 then z0 t + 1 else 0
def cap7 (lim : Nat) (ds : List UInt8) : Nat := if 7 < ds.length - z0 ds then lim else min (vals 0 (ds.drop (z0 ds))) lim

theorem z0_le (l : List UInt8) : z0 l ≤ l.length := by
  induction l with
  | nil => simp [z0]
  | cons c l ih => simp only [z0, List.length_cons]; split <;> omega

theorem held_vals (lim : Nat) : ∀ (ds : List UInt8) (a : Nat), ds.foldl (fun v c => min (v * 10 + (c.toNat - 48)) lim) (min a lim) = min (vals a ds) lim := by
  intro ds
  induction ds with
  | nil => intro a; simp [vals]
  | cons c t ih =>
    intro a
    simp only [List.foldl_cons, vals]
    rw [show min (min a lim * 10 + (c.toNat - 48)) lim = min (a * 10 + (c.toNat - 48)) lim from by omega]
    exact ih _

theorem held_eq (lim : Nat) (ds : List UInt8) : held lim ds = min (vals 0 ds) lim := by
  have := held_vals lim ds 0
  rw [show min 0 lim = 0 from by omega] at this
  exact this

theorem vals_z0 : ∀ (ds : List UInt8), vals 0 (ds.drop (z0 ds)) = vals 0 ds := by
  intro ds
  induction ds with
  | nil => simp [z0]
  | cons c t ih =>
    by_cases h : c = 48
    · subst h; simp only [z0, if_true, List.drop_succ_cons]; rw [ih]; rfl
    · simp [z0, h]

theorem vals_ge : ∀ (ds : List UInt8) (a : Nat), a * 10 ^ ds.length ≤ vals a ds := by
  intro ds
  induction ds with
  | nil => intro a; simp [vals]
  | cons c t ih =>
    intro a
    have := ih (a * 10 + (c.toNat - 48))
    simp only [vals, List.foldl_cons, List.length_cons] at this ⊢
    refine Nat.le_trans ?_ this
    rw [Nat.pow_succ, Nat.mul_comm (10 ^ t.length) 10, ← Nat.mul_assoc]
    exact Nat.mul_le_mul_right _ (by omega)

theorem vals_lt : ∀ (ds : List UInt8) (a : Nat), (∀ c ∈ ds, dg c = true) → vals a ds < (a + 1) * 10 ^ ds.length := by
  intro ds
  induction ds with
  | nil => intro a _; simp [vals]
  | cons c t ih =>
    intro a h
    have hc := (dg_iff c).1 (h c (by simp))
    have := ih (a * 10 + (c.toNat - 48)) (fun d hd => h d (by simp [hd]))
    simp only [vals, List.foldl_cons, List.length_cons] at this ⊢
    refine Nat.lt_of_lt_of_le this ?_
    rw [Nat.pow_succ, Nat.mul_comm (10 ^ t.length) 10, ← Nat.mul_assoc]
    exact Nat.mul_le_mul_right _ (by omega)

theorem z0_head : ∀ (ds : List UInt8) (c : UInt8) (t : List UInt8), ds.drop (z0 ds) = c :: t → c ≠ 48 := by
  intro ds
  induction ds with
  | nil => intro c t h; simp [z0] at h
  | cons d u ih =>
    intro c t h
    by_cases hd : d = 48
    · subst hd; simp only [z0, if_true, List.drop_succ_cons] at h; exact ih c t h
    · simp [z0, hd] at h; exact h.1 ▸ hd

theorem cap7_held (lim : Nat) (hl : lim < 10000000) (ds : List UInt8) (h : ∀ c ∈ ds, dg c = true) : cap7 lim ds = held lim ds := by
  rw [held_eq, ← vals_z0]
  unfold cap7
  by_cases h7 : 7 < ds.length - z0 ds
  · rw [if_pos h7]
    have hz := z0_le ds
    have hlen : (ds.drop (z0 ds)).length = ds.length - z0 ds := by simp
    cases hx : ds.drop (z0 ds) with
    | nil => rw [hx] at hlen; simp at hlen; omega
    | cons c t =>
      have hc := z0_head ds c t hx
      have hdc := (dg_iff c).1 (h c (by have : c ∈ ds.drop (z0 ds) := by rw [hx]; simp
                                        exact List.mem_of_mem_drop this))
      have hc' : c.toNat ≠ 48 := by intro e; apply hc; exact UInt8.toNat_inj.1 (by simpa using e)
      have hge := vals_ge t (0 * 10 + (c.toNat - 48))
      have ht : 7 ≤ t.length := by rw [hx] at hlen; simp at hlen; omega
      have hp : 10 ^ 7 ≤ 10 ^ t.length := Nat.pow_le_pow_right (by omega) ht
      have : vals 0 (c :: t) = vals (0 * 10 + (c.toNat - 48)) t := rfl
      rw [this]
      have h1 : 1 * 10 ^ t.length ≤ (0 * 10 + (c.toNat - 48)) * 10 ^ t.length := Nat.mul_le_mul_right _ (by omega)
      omega
  · rw [if_neg h7]

/-! ### what the automaton keeps -/
theorem runs_snoc (x : St) (l : List UInt8) (c : UInt8) : runs x (l ++ [c]) = match runs x l with | none => none | some y => step y c := by
  induction l generalizing x with
  | nil => simp only [List.nil_append, runs]; cases step x c <;> rfl
  | cons d t ih =>
    simp only [List.cons_append, runs]
    cases step x d with
    | none => rfl
    | some y => exact ih y

/-- the exponent's digits are digits; none is there ahead of the marker. -/
structure Ok (n : Nat) (x : St) : Prop where
  st : x.st ≤ 8
  ed : ∀ c ∈ x.ed, dg c = true
  early : x.st ≤ 5 → x.ed = []
  lb : x.body.length ≤ n
  le : x.ed.length ≤ n
  lf : x.fr ≤ n

theorem ok_step {n : Nat} {x y : St} {c : UInt8} (h : Ok n x) (hs : step x c = some y) : Ok (n + 1) y := by
  obtain ⟨h1, h2, h3, h4, h5, h6⟩ := h
  obtain ⟨st, ng, en, b, ed, f⟩ := x
  simp only at h1 h2 h3 h4 h5 h6
  have key : st = 0 ∨ st = 1 ∨ st = 2 ∨ st = 3 ∨ st = 4 ∨ st = 5 ∨ st = 6 ∨ st = 7 ∨ st = 8 := by omega
  have hd : ∀ (hc : dg c = true), ∀ d ∈ ed ++ [c], dg d = true := by
    intro hc d hd
    rcases List.mem_append.1 hd with q | q
    · exact h2 d q
    · simp at q; rw [q]; exact hc
  rcases key with rfl | rfl | rfl | rfl | rfl | rfl | rfl | rfl | rfl <;> simp only [step] at hs <;> (repeat' split at hs) <;>
    first | (cases hs; done) | (injection hs with hs; subst hs; refine ⟨by simp, ?_, ?_, ?_, ?_, ?_⟩ <;> first | exact h2 | exact hd ‹_› | (intro _; exact h3 (by omega)) | (simp; omega) | (simp only; omega))
end Go.Proofs.Qxb6602135a.Plain
