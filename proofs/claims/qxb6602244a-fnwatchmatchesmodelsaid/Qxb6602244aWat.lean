/-
  THE WATCHERS: a map of maps in memory, and the plain lists that it stands for.
-/
import Derived.Test.Qxb6602244aNew
import Derived.Test.Qxb6602244aPtr
import Derived.Laws.Cover3
namespace Go.Proofs.Qxb6602244a
open Go.ChangeShapes Go.WideShapes Go.ChangeAt Go.RowKit
open ChangeMaps (setBlock)
set_option linter.unusedVariables false

/-! ### plain -/
/-- an inner map: expression to (is it ours?, at). -/
abbrev Inn := List (Int × (Bool × Int))
/-- the outer: name to inner. -/
abbrev Wms := List (ByteArray × Inn)
def put (M : Wms) (n : ByteArray) (e : Int) (v : Bool × Int) : Wms := upd M n (upd ((get M n).getD []) e v)
def look (M : Wms) (n : ByteArray) (e : Int) : Option (Bool × Int) := get ((get M n).getD []) e
def isMine (o : Option (Bool × Int)) : Bool := match o with | some v => v.1 | none => false
/-- one read watched. -/
def wstep (i : Int) (M : Wms) (r : ByteArray × Int) : Wms := if isMine (look M r.1 i) then M else put M r.1 i (true, r.2)
/-- the reads that count. -/
def front (nn : Nat) (rs : List (ByteArray × Int)) : List (ByteArray × Int) := if nn < 2 then [] else rs.takeWhile (fun r => decide (r.2 < (nn : Int)))
def watchM (nn : Nat) (i : Int) (rs : List (ByteArray × Int)) (M : Wms) : Wms := (front nn rs).foldl (wstep i) M
/-- an entry laid. -/
def fstep (M : Wms) (x : ByteArray × Int × Bool × Int) : Wms := put M x.1 x.2.1 x.2.2
def fillM (L : List (ByteArray × Int × Bool × Int)) : Wms := L.foldl fstep []

theorem upd_upd {K V : Type} [DecidableEq K] (m : List (K × V)) (k : K) (v v' : V) : upd (upd m k v) k v' = upd m k v' := by
  induction m with
  | nil => simp [upd]
  | cons p t ih =>
    obtain ⟨a, b⟩ := p
    simp only [upd]
    by_cases h : a = k
    · simp [h, upd]
    · simp [h, upd, ih]
theorem look_put (M : Wms) (n : ByteArray) (e : Int) (v : Bool × Int) (n' : ByteArray) (e' : Int) : look (put M n e v) n' e' = if n = n' ∧ e = e' then some v else look M n' e' := by
  unfold look put
  rw [get_upd]
  by_cases h : n = n'
  · subst h
    simp only [if_true, Option.getD_some, get_upd, true_and]
  · simp [h]
theorem wstep_mine (i : Int) (M : Wms) (r : ByteArray × Int) : isMine (look (wstep i M r) r.1 i) = true := by
  unfold wstep
  split
  · assumption
  · rw [look_put]; simp [isMine]
theorem wstep_keeps (i : Int) (M : Wms) (r : ByteArray × Int) (n : ByteArray) (h : isMine (look M n i) = true) : isMine (look (wstep i M r) n i) = true := by
  unfold wstep
  split
  · exact h
  · rw [look_put]
    by_cases e : r.1 = n
    · simp [e, isMine]
    · simp [e, h]
theorem fold_keeps (i : Int) (L : List (ByteArray × Int)) : ∀ (M : Wms) (n : ByteArray), isMine (look M n i) = true → isMine (look (L.foldl (wstep i) M) n i) = true := by
  induction L with
  | nil => intro M n h; exact h
  | cons r t ih => intro M n h; exact ih _ n (wstep_keeps i M r n h)
theorem fold_mine (i : Int) (L : List (ByteArray × Int)) : ∀ (M : Wms) (r : ByteArray × Int), r ∈ L → isMine (look (L.foldl (wstep i) M) r.1 i) = true := by
  induction L with
  | nil => intro M r h; simp at h
  | cons q t ih =>
    intro M r h
    rcases List.mem_cons.1 h with rfl | h
    · exact fold_keeps i t _ _ (wstep_mine i M r)
    · exact ih _ r h
theorem fold_same (i : Int) (L : List (ByteArray × Int)) (M : Wms) (h : ∀ r ∈ L, isMine (look M r.1 i) = true) : L.foldl (wstep i) M = M := by
  induction L with
  | nil => rfl
  | cons r t ih =>
    have h1 : wstep i M r = M := by unfold wstep; rw [if_pos (h r (by simp))]
    simp only [List.foldl_cons, h1]
    exact ih (fun q hq => h q (by simp [hq]))
/-- A SECOND WATCH CHANGES NOTHING. -/
theorem watch_again (nn : Nat) (i : Int) (rs : List (ByteArray × Int)) (M : Wms) : watchM nn i rs (watchM nn i rs M) = watchM nn i rs M :=
  fold_same i _ _ (fun r hr => fold_mine i _ M r hr)

/-! ### in memory -/
def encW (ab ob : Nat) (v : Bool × Int) : Value := .agg #[.pointer (some ⟨if v.1 then ab else ob, 0, none⟩), .int .i64 v.2]
def inE (ab ob : Nat) (m : Inn) : List (Int × Value) := m.map fun p => (p.1, encW ab ob p.2)
def outE (f : ByteArray → Nat) (M : Wms) : List (ByteArray × Value) := M.map fun p => (p.1, .map (some (f p.1)))

theorem get_inE (ab ob : Nat) (m : Inn) (i : Int) : get (inE ab ob m) i = (get m i).map (encW ab ob) := by
  induction m with
  | nil => rfl
  | cons p t ih => obtain ⟨a, b⟩ := p; simp only [inE, List.map_cons, get]; split; rfl; exact ih
theorem upd_inE (ab ob : Nat) (m : Inn) (i : Int) (v : Bool × Int) : upd (inE ab ob m) i (encW ab ob v) = inE ab ob (upd m i v) := by
  induction m with
  | nil => rfl
  | cons p t ih => obtain ⟨a, b⟩ := p; simp only [inE, List.map_cons, upd]; split; rfl; simp only [List.map_cons]; rw [← inE, ← inE, ih]
theorem get_outE (f : ByteArray → Nat) (M : Wms) (n : ByteArray) : get (outE f M) n = (get M n).map fun _ => .map (some (f n)) := by
  induction M with
  | nil => rfl
  | cons p t ih =>
    obtain ⟨a, b⟩ := p
    simp only [outE, List.map_cons, get]
    by_cases h : a = n
    · simp [h]
    · simp only [h, if_false]; exact ih
theorem outE_upd (f : ByteArray → Nat) (M : Wms) (n : ByteArray) (m m' : Inn) (h : get M n = some m) : outE f (upd M n m') = outE f M := by
  induction M with
  | nil => simp [get] at h
  | cons p t ih =>
    obtain ⟨a, b⟩ := p
    simp only [get] at h
    by_cases e : a = n
    · simp [upd, e, outE]
    · simp only [e, if_false] at h
      simp only [upd, e, if_false, outE, List.map_cons]
      rw [← outE, ← outE, ih h]
theorem outE_new (f : ByteArray → Nat) (M : Wms) (n : ByteArray) (b : Nat) (m : Inn) (h : get M n = none) : upd (outE f M) n (.map (some b)) = outE (fun x => if x = n then b else f x) (upd M n m) := by
  induction M with
  | nil => simp [outE, upd]
  | cons p t ih =>
    obtain ⟨a, c⟩ := p
    simp only [get] at h
    by_cases e : a = n
    · simp [e] at h
    · simp only [e, if_false] at h
      simp only [upd, e, if_false, outE, List.map_cons]
      have := ih h
      simp only [outE] at this
      rw [this]
theorem outE_len (f : ByteArray → Nat) (M : Wms) : (outE f M).length = M.length := by simp [outE]
theorem inE_len (ab ob : Nat) (m : Inn) : (inE ab ob m).length = m.length := by simp [inE]

/-- THE WATCHERS IN MEMORY: the outer map in block wm, the inner one of a name n in block f n; our attempt in block ab, the other in ob. -/
structure Wat (w : World) (B wm ab ob : Nat) (f : ByteArray → Nat) (M : Wms) : Prop where
  out : MapIs Value.string w wm (outE f M)
  inn : ∀ n m, get M n = some m → MapIs (Value.int .i64) w (f n) (inE ab ob m) ∧ B ≤ f n ∧ f n ≠ wm
  apart : ∀ n n' m m', get M n = some m → get M n' = some m' → f n = f n' → n = n'

theorem Wat.keep {w w' : World} {B wm ab ob : Nat} {f : ByteArray → Nat} {M : Wms} (h : Wat w B wm ab ob f M) (k : Keeps w w') : Wat w' B wm ab ob f M :=
  ⟨h.out.keep k, fun n m hm => ⟨(h.inn n m hm).1.keep k, (h.inn n m hm).2⟩, h.apart⟩
theorem MapIs.lt {K : Type} {enc : K → Value} {w : World} {r : Nat} {m : List (K × Value)} (h : MapIs enc w r m) : r < w.heap.size := by
  obtain ⟨es, c, h1, _⟩ := h
  exact (Array.getElem?_eq_some_iff.1 h1).1

theorem zero94 : (Try.prog.info? 94).map (fun i => i.zero) = some (some (.map none)) := by kernel_rfl
theorem zero96 : (Try.prog.info? 96).map (fun i => i.zero) = some (some (.agg #[.pointer none, .int .i64 0])) := by kernel_rfl
theorem under84 : Try.prog.underlying 84 = some (.map 9 94) := Try.underlying84
theorem under94 : Try.prog.underlying 94 = some (.map 3 96) := Try.underlying94

theorem eql94 (w : World) (m : Option Nat) : (binOp .eql 94 (.map m) (.map none)).run Try.prog w = .ok (.bool m.isNone) w := by
  simp only [binOp]
  simp [run_equal_map_nil w 94 3 96 m under94]
theorem eql69 (w : World) (a : Option Addr) (l c : Nat) : (binOp .eql 69 (.slice a l c) (.slice none 0 0)).run Try.prog w = .ok (.bool a.isNone) w := by
  simp only [binOp]
  simp [run_equal_slice_nil w 69 93 a l c Try.underlying69]

section
variable {w : World} {B wm ab ob : Nat} {f : ByteArray → Nat} {M : Wms}
theorem Wat.look_none (h : Wat w B wm ab ob f M) {n : ByteArray} (hn : get M n = none) : (Instr.lookup 84 (.map (some wm)) (.string n) false).run Try.prog w = .ok (.map none) w := by
  have := look_map (keys_string (P := Try.prog) Try.underlying9) under84 zero94 h.out n false
  rw [this, get_outE, hn]; rfl
theorem Wat.look_some (h : Wat w B wm ab ob f M) {n : ByteArray} {m : Inn} (hn : get M n = some m) : (Instr.lookup 84 (.map (some wm)) (.string n) false).run Try.prog w = .ok (.map (some (f n))) w := by
  have := look_map (keys_string (P := Try.prog) Try.underlying9) under84 zero94 h.out n false
  rw [this, get_outE, hn]; rfl
theorem Wat.in_none (h : Wat w B wm ab ob f M) {n : ByteArray} {m : Inn} (hn : get M n = some m) {i : Int} (hi : get m i = none) : (Instr.lookup 94 (.map (some (f n))) (.int .i64 i) true).run Try.prog w = .ok (.tuple #[.agg #[.pointer none, .int .i64 0], .bool false]) w := by
  have := look_map (keys_int (P := Try.prog) Try.underlying3) under94 zero96 (h.inn n m hn).1 i true
  rw [this, get_inE, hi]; rfl
theorem Wat.in_some (h : Wat w B wm ab ob f M) {n : ByteArray} {m : Inn} (hn : get M n = some m) {i : Int} {v : Bool × Int} (hi : get m i = some v) : (Instr.lookup 94 (.map (some (f n))) (.int .i64 i) true).run Try.prog w = .ok (.tuple #[encW ab ob v, .bool true]) w := by
  have := look_map (keys_int (P := Try.prog) Try.underlying3) under94 zero96 (h.inn n m hn).1 i true
  rw [this, get_inE, hi]; rfl

/-- a new inner map. -/
theorem Wat.fresh {w1 : World} (h : Wat w1 B wm ab ob f M) {n : ByteArray} (hn : get M n = none) {b c : Nat} (hb : w1.heap[b]? = some (.map #[] c)) (hB : B ≤ b) (hwm : b ≠ wm) (hne : ∀ n m, get M n = some m → f n ≠ b) :
    ∃ es c, (Instr.mapUpdate 84 (.map (some wm)) (.string n) (.map (some b))).run Try.prog w1 = .ok () (setBlock w1 wm (.map es c)) ∧
      Wat (setBlock w1 wm (.map es c)) B wm ab ob (fun x => if x = n then b else f x) (upd M n []) := by
  obtain ⟨es, c, hrun, he⟩ := store_map (keys_string (P := Try.prog) Try.underlying9) under84 h.out n (.map (some b))
  obtain ⟨es0, c0, h0, _⟩ := h.out
  refine ⟨es, c, hrun, ⟨⟨es, c, setBlock_same h0, ?_⟩, ?_, ?_⟩⟩
  · rw [← outE_new f M n b [] hn]; exact he
  · intro n' m' hm'
    rw [get_upd] at hm'
    by_cases e : n = n'
    · subst e
      simp at hm'
      subst hm'
      simp only [if_true]
      exact ⟨⟨#[], _, by rw [setBlock_other hwm]; exact hb, rfl⟩, hB, hwm⟩
    · rw [if_neg e] at hm'
      rw [if_neg (Ne.symm e)]
      obtain ⟨⟨e1, c1, h1, h2⟩, h3, h4⟩ := h.inn n' m' hm'
      exact ⟨⟨e1, c1, by rw [setBlock_other h4]; exact h1, h2⟩, h3, h4⟩
  · intro n1 n2 m1 m2 h1 h2 heq
    rw [get_upd] at h1 h2
    by_cases e1 : n = n1
    · by_cases e2 : n = n2
      · exact e1.symm.trans e2
      · rw [if_neg e2] at h2
        simp only [← e1, if_true, if_neg (Ne.symm e2)] at heq
        exact absurd heq.symm (hne n2 m2 h2)
    · by_cases e2 : n = n2
      · rw [if_neg e1] at h1
        simp only [← e2, if_true, if_neg (Ne.symm e1)] at heq
        exact absurd heq (hne n1 m1 h1)
      · rw [if_neg e1] at h1
        rw [if_neg e2] at h2
        simp only [if_neg (Ne.symm e1), if_neg (Ne.symm e2)] at heq
        exact h.apart n1 n2 m1 m2 h1 h2 heq

/-- a watcher laid. -/
theorem Wat.lay (h : Wat w B wm ab ob f M) {n : ByteArray} {m : Inn} (hn : get M n = some m) (i : Int) (v : Bool × Int) :
    ∃ es c, (Instr.mapUpdate 94 (.map (some (f n))) (.int .i64 i) (encW ab ob v)).run Try.prog w = .ok () (setBlock w (f n) (.map es c)) ∧
      Wat (setBlock w (f n) (.map es c)) B wm ab ob f (upd M n (upd m i v)) := by
  obtain ⟨es, c, hrun, he⟩ := store_map (keys_int (P := Try.prog) Try.underlying3) under94 (h.inn n m hn).1 i (encW ab ob v)
  obtain ⟨es0, c0, h0, _⟩ := (h.inn n m hn).1
  obtain ⟨eso, co, ho, hoo⟩ := h.out
  have hfn := (h.inn n m hn).2
  refine ⟨es, c, hrun, ⟨⟨eso, co, by rw [setBlock_other (Ne.symm hfn.2)]; exact ho, by rw [outE_upd f M n m _ hn]; exact hoo⟩, ?_, ?_⟩⟩
  · intro n' m' hm'
    rw [get_upd] at hm'
    by_cases e : n = n'
    · subst e
      simp at hm'
      subst hm'
      exact ⟨⟨es, c, setBlock_same h0, by rw [← upd_inE]; exact he⟩, hfn⟩
    · rw [if_neg e] at hm'
      obtain ⟨⟨e1, c1, h1, h2⟩, h3, h4⟩ := h.inn n' m' hm'
      exact ⟨⟨e1, c1, by rw [setBlock_other (fun e' => e (h.apart n n' m m' hn hm' e'.symm))]; exact h1, h2⟩, h3, h4⟩
  · intro n1 n2 m1 m2 h1 h2 heq
    rw [get_upd] at h1 h2
    have k : ∀ n' x, (if n = n' then some (upd m i v) else get M n') = some x → ∃ y, get M n' = some y := by
      intro n' x hx
      by_cases e : n = n'
      · exact ⟨m, e ▸ hn⟩
      · rw [if_neg e] at hx; exact ⟨x, hx⟩
    obtain ⟨y1, k1⟩ := k _ _ h1
    obtain ⟨y2, k2⟩ := k _ _ h2
    exact h.apart n1 n2 y1 y2 k1 k2 heq
end

/-- all rows stay. -/
def KeepsC (w w' : World) : Prop := ∀ (k : Nat) (cs : Array Value) (t : TypeId) (fz : Nat × Nat), w.heap[k]? = some (.cells cs t fz) → w'.heap[k]? = some (.cells cs t fz)
theorem KeepsC.refl (w : World) : KeepsC w w := fun _ _ _ _ h => h
theorem KeepsC.trans {a b c : World} (h : KeepsC a b) (k : KeepsC b c) : KeepsC a c := fun i cs t fz hi => k i cs t fz (h i cs t fz hi)
theorem KeepsC.below {w w' : World} (h : Below w.heap.size w w') : KeepsC w w' := fun k cs t fz hk => by
  rw [h.block k (Array.getElem?_eq_some_iff.1 hk).1]; exact hk
theorem KeepsC.set {w : World} {K : Type} {enc : K → Value} {r : Nat} {m : List (K × Value)} (h : MapIs enc w r m) (o : Obj) : KeepsC w (setBlock w r o) := fun k cs t fz hk => by
  obtain ⟨es, c, h1, _⟩ := h
  rw [setBlock_other (by intro e; rw [e, h1] at hk; simp at hk)]; exact hk
end Go.Proofs.Qxb6602244a
