/-
  THE WATCHERS, PLAIN: what a look-up, the number under a name and the number of names are after a fill and a watch.
-/
import Derived.Test.Qxb6602244aFill
import Derived.Test.Qxb6602244aSnap
namespace Go.Proofs.Qxb6602244a
open Go.RowKit
set_option linter.unusedVariables false

/-! ### look -/
theorem fill_snoc (L : List (ByteArray × Int × Bool × Int)) (x : ByteArray × Int × Bool × Int) : fillM (L ++ [x]) = put (fillM L) x.1 x.2.1 x.2.2 := by simp [fillM, fstep]
/-- the key of an entry. -/
abbrev isKey (n : ByteArray) (e : Int) (x : ByteArray × Int × Bool × Int) : Prop := x.1 = n ∧ x.2.1 = e
theorem fold_look_none (n : ByteArray) (e : Int) : ∀ (L : List (ByteArray × Int × Bool × Int)) (M : Wms), (∀ x ∈ L, ¬ isKey n e x) → look (L.foldl fstep M) n e = look M n e := by
  intro L
  induction L with
  | nil => intro M _; rfl
  | cons x t ih =>
    intro M h
    rw [List.foldl_cons, ih _ (fun y hy => h y (by simp [hy])), fstep, look_put, if_neg (h x (by simp))]
theorem look_fill_none {L : List (ByteArray × Int × Bool × Int)} {n : ByteArray} {e : Int} (h : ∀ x ∈ L, ¬ isKey n e x) : look (fillM L) n e = none := by
  rw [fillM, fold_look_none n e L [] h]; rfl
theorem look_fill_last {L : List (ByteArray × Int × Bool × Int)} {n : ByteArray} {e : Int} {j : Nat} (hj : j < L.length) (hk : isKey n e L[j]) (h : ∀ k, j < k → (hk : k < L.length) → ¬ isKey n e L[k]) : look (fillM L) n e = some L[j].2.2 := by
  have e1 : L = L.take j ++ L[j] :: L.drop (j + 1) := by rw [← List.drop_eq_getElem_cons hj, List.take_append_drop]
  have e2 : fillM L = (L.drop (j + 1)).foldl fstep (put (fillM (L.take j)) L[j].1 L[j].2.1 L[j].2.2) := by
    conv => lhs; rw [e1]
    rw [fillM, List.foldl_append, List.foldl_cons]; rfl
  rw [e2, fold_look_none n e _ _ ?_, look_put, if_pos hk]
  intro x hx
  obtain ⟨k, hk1, rfl⟩ := List.getElem_of_mem hx
  rw [List.getElem_drop]
  exact h _ (by omega) _
theorem look_fill_some {L : List (ByteArray × Int × Bool × Int)} {n : ByteArray} {e : Int} (h : ∃ x ∈ L, isKey n e x) : (look (fillM L) n e).isSome = true := by
  suffices ∀ (L : List (ByteArray × Int × Bool × Int)) (M : Wms), ((∃ x ∈ L, isKey n e x) ∨ (look M n e).isSome = true) → (look (L.foldl fstep M) n e).isSome = true from this L [] (.inl h)
  intro L
  induction L with
  | nil => intro M h; rcases h with ⟨x, hx, _⟩ | h; simp at hx; exact h
  | cons x t ih =>
    intro M h
    rw [List.foldl_cons]
    apply ih
    by_cases hx : isKey n e x
    · right; rw [fstep, look_put, if_pos hx]; rfl
    · rcases h with ⟨y, hy, hk⟩ | h
      · rcases List.mem_cons.1 hy with rfl | hy
        · exact absurd hk hx
        · exact .inl ⟨y, hy, hk⟩
      · right; rw [fstep, look_put, if_neg hx]; exact h

theorem look_wstep (i : Int) (M : Wms) (r : ByteArray × Int) (n : ByteArray) (e : Int) : look (wstep i M r) n e = if r.1 = n ∧ i = e ∧ isMine (look M n i) = false then some (true, r.2) else look M n e := by
  unfold wstep
  by_cases hm : isMine (look M r.1 i) = true
  · rw [if_pos hm]
    by_cases h : r.1 = n ∧ i = e ∧ isMine (look M n i) = false
    · obtain ⟨rfl, rfl, h3⟩ := h; rw [hm] at h3; cases h3
    · rw [if_neg h]
  · rw [if_neg hm, look_put]
    by_cases h : r.1 = n ∧ i = e
    · rw [if_pos h, if_pos ⟨h.1, h.2, by rw [← h.1]; simpa using hm⟩]
    · rw [if_neg h, if_neg (fun h' => h ⟨h'.1, h'.2.1⟩)]
theorem look_fold_other (i : Int) {n : ByteArray} {e : Int} : ∀ (F : List (ByteArray × Int)) (M : Wms), (e ≠ i ∨ ∀ r ∈ F, r.1 ≠ n) → look (F.foldl (wstep i) M) n e = look M n e := by
  intro F
  induction F with
  | nil => intro M _; rfl
  | cons r t ih =>
    intro M h
    rw [List.foldl_cons, ih _ (h.imp id (fun h q hq => h q (by simp [hq]))), look_wstep, if_neg]
    rintro ⟨h1, h2, _⟩
    rcases h with h | h
    · exact h h2.symm
    · exact h r (by simp) h1
theorem fold_mine_same (i : Int) {n : ByteArray} : ∀ (F : List (ByteArray × Int)) (M : Wms), isMine (look M n i) = true → look (F.foldl (wstep i) M) n i = look M n i := by
  intro F
  induction F with
  | nil => intro M _; rfl
  | cons r t ih =>
    intro M h
    rw [List.foldl_cons, ih _ (wstep_keeps i M r n h), look_wstep, if_neg]
    rintro ⟨_, _, h3⟩
    rw [h] at h3; cases h3
theorem look_fold_first (i : Int) {n : ByteArray} {F : List (ByteArray × Int)} {M : Wms} {q : Nat} (hq : q < F.length) (hn : F[q].1 = n) (h : ∀ k, k < q → (hk : k < F.length) → F[k].1 ≠ n) :
    look (F.foldl (wstep i) M) n i = if isMine (look M n i) then look M n i else some (true, F[q].2) := by
  by_cases hm : isMine (look M n i) = true
  · rw [if_pos hm, fold_mine_same i F M hm]
  · rw [if_neg hm]
    have e1 : F = F.take q ++ F[q] :: F.drop (q + 1) := by rw [← List.drop_eq_getElem_cons hq, List.take_append_drop]
    have e0 : F.foldl (wstep i) M = (F.drop (q + 1)).foldl (wstep i) (wstep i ((F.take q).foldl (wstep i) M) F[q]) := by
      conv => lhs; rw [e1]
      rw [List.foldl_append, List.foldl_cons]
    rw [e0]
    have e2 : look ((F.take q).foldl (wstep i) M) n i = look M n i := look_fold_other i _ M (.inr (by
      intro r hr
      obtain ⟨k, hk1, rfl⟩ := List.getElem_of_mem hr
      rw [List.getElem_take]
      have : k < q := by simp at hk1; omega
      exact h k this _))
    have e3 : look (wstep i ((F.take q).foldl (wstep i) M) F[q]) n i = some (true, F[q].2) := by
      rw [look_wstep, e2, if_pos ⟨hn, rfl, by simpa using hm⟩]
    rw [fold_mine_same i _ _ (by rw [e3]; rfl), e3]

/-! ### the number under a name -/
theorem lenOf_put (M : Wms) (n : ByteArray) (e : Int) (v : Bool × Int) (n' : ByteArray) : lenOf (put M n e v) n' = lenOf M n' + (if n = n' ∧ look M n' e = none then 1 else 0) := by
  unfold lenOf put look
  rw [get_upd]
  by_cases h : n = n'
  · subst h
    simp only [if_true, Option.getD_some, upd_len, true_and]
    cases get ((get M n).getD []) e <;> simp
  · simp [h]
theorem lenOf_wstep (i : Int) (M : Wms) (r : ByteArray × Int) (n : ByteArray) : lenOf (wstep i M r) n = lenOf M n + (if r.1 = n ∧ look M n i = none then 1 else 0) := by
  unfold wstep
  by_cases hm : isMine (look M r.1 i) = true
  · rw [if_pos hm, if_neg]
    · omega
    · rintro ⟨rfl, h⟩; rw [h] at hm; cases hm
  · rw [if_neg hm, lenOf_put]
theorem some_wstep (i : Int) (M : Wms) (r : ByteArray × Int) (n : ByteArray) : (look (wstep i M r) n i).isSome = ((look M n i).isSome || decide (r.1 = n)) := by
  rw [look_wstep]
  by_cases h : r.1 = n
  · subst h
    cases hl : look M r.1 i with
    | none => simp [isMine]
    | some v => by_cases hv : v.1 = true <;> simp [isMine, hv]
  · simp [h]
theorem lenOf_fold (i : Int) (n : ByteArray) : ∀ (F : List (ByteArray × Int)) (M : Wms), lenOf (F.foldl (wstep i) M) n = lenOf M n + (if look M n i = none ∧ has (F.map (·.1)) n = true then 1 else 0) := by
  intro F
  induction F with
  | nil => intro M; simp [has]
  | cons r t ih =>
    intro M
    rw [List.foldl_cons, ih, lenOf_wstep]
    have hs := some_wstep i M r n
    by_cases h : r.1 = n
    · cases hl : look M n i with
      | none =>
        rw [hl] at hs
        have : look (wstep i M r) n i ≠ none := by intro e; rw [e] at hs; simp [h] at hs
        simp [h, this, has]
      | some v =>
        rw [hl] at hs
        have : look (wstep i M r) n i ≠ none := by intro e; rw [e] at hs; simp at hs
        simp [this]
    · have h2 : look (wstep i M r) n i = look M n i := by rw [look_wstep, if_neg (fun h' => h h'.1)]
      rw [h2]
      have hc : has ((r :: t).map (·.1)) n = has (t.map (·.1)) n := by simp only [has, List.map_cons, List.any_cons, h, decide_false, Bool.false_or]
      rw [hc, if_neg (fun h' => h h'.1), Int.add_zero]
theorem lenOf_le (L : List (ByteArray × Int × Bool × Int)) (n : ByteArray) : 0 ≤ lenOf (fillM L) n ∧ lenOf (fillM L) n ≤ L.length := by
  suffices ∀ (L : List (ByteArray × Int × Bool × Int)) (M : Wms), lenOf (L.foldl fstep M) n ≤ lenOf M n + L.length by
    refine ⟨by unfold lenOf; omega, ?_⟩
    have := this L []
    have e : lenOf [] n = 0 := rfl
    rw [e] at this
    simp only [fillM]; omega
  intro L
  induction L with
  | nil => intro M; simp
  | cons x t ih =>
    intro M
    rw [List.foldl_cons]
    have := ih (fstep M x)
    rw [fstep, lenOf_put] at this
    simp only [List.length_cons, fstep]
    split at this <;> omega

/-! ### the number of names -/
theorem put_len (M : Wms) (n : ByteArray) (e : Int) (v : Bool × Int) : (put M n e v).length = M.length + (if (get M n).isSome then 0 else 1) := upd_len _ _ _
theorem get_put (M : Wms) (n : ByteArray) (e : Int) (v : Bool × Int) (n' : ByteArray) : (get (put M n e v) n').isSome = ((get M n').isSome || decide (n = n')) := by
  unfold put
  rw [get_upd]
  by_cases h : n = n' <;> simp [h]
theorem mine_get {M : Wms} {n : ByteArray} {i : Int} (h : isMine (look M n i) = true) : (get M n).isSome = true := by
  unfold look at h
  cases hg : get M n with
  | none => rw [hg] at h; cases h
  | some m => rfl
theorem wstep_len (i : Int) (M : Wms) (r : ByteArray × Int) : (wstep i M r).length = M.length + (if (get M r.1).isSome then 0 else 1) := by
  unfold wstep
  by_cases hm : isMine (look M r.1 i) = true
  · rw [if_pos hm, if_pos (mine_get hm)]; rfl
  · rw [if_neg hm, put_len]
theorem get_wstep (i : Int) (M : Wms) (r : ByteArray × Int) (n : ByteArray) : (get (wstep i M r) n).isSome = ((get M n).isSome || decide (r.1 = n)) := by
  unfold wstep
  by_cases hm : isMine (look M r.1 i) = true
  · rw [if_pos hm]
    by_cases h : r.1 = n
    · subst h; simp [mine_get hm]
    · simp [h]
  · rw [if_neg hm, get_put]
theorem get_fold (i : Int) (n : ByteArray) : ∀ (F : List (ByteArray × Int)) (M : Wms), (get (F.foldl (wstep i) M) n).isSome = ((get M n).isSome || has (F.map (·.1)) n) := by
  intro F
  induction F with
  | nil => intro M; simp [has]
  | cons r t ih => intro M; rw [List.foldl_cons, ih, get_wstep]; simp [has, Bool.or_assoc]
theorem get_fill (n : ByteArray) (L : List (ByteArray × Int × Bool × Int)) : (get (fillM L) n).isSome = has (L.map (·.1)) n := by
  suffices ∀ (L : List (ByteArray × Int × Bool × Int)) (M : Wms), (get (L.foldl fstep M) n).isSome = ((get M n).isSome || has (L.map (·.1)) n) by
    have := this L []
    rw [fillM, this]; rfl
  intro L
  induction L with
  | nil => intro M; simp [has]
  | cons r t ih => intro M; rw [List.foldl_cons, ih, fstep, get_put]; simp [has, Bool.or_assoc]

/-! ### the reads that count -/
def prefN (nn : Nat) (ra : List Int) : Nat := if nn < 2 then 0 else (ra.takeWhile (fun z => decide (z < (nn : Int)))).length
theorem prefN_le (nn : Nat) (ra : List Int) : prefN nn ra ≤ ra.length := by
  unfold prefN
  split
  · omega
  · exact (List.takeWhile_sublist _).length_le
theorem zip_takeWhile {α β : Type} (p : β → Bool) : ∀ (a : List α) (b : List β), a.length = b.length → (a.zip b).takeWhile (fun r => p r.2) = (a.zip b).take (b.takeWhile p).length := by
  intro a
  induction a with
  | nil => intro b _; simp
  | cons x t ih =>
    intro b h
    cases b with
    | nil => simp at h
    | cons y u =>
      simp only [List.length_cons, Nat.add_right_cancel_iff] at h
      simp only [List.zip_cons_cons, List.takeWhile_cons]
      by_cases hp : p y = true
      · simp [hp, ih u h]
      · simp [hp]
theorem front_pref (nn : Nat) (rn : List ByteArray) (ra : List Int) (h : rn.length = ra.length) : front nn (rn.zip ra) = (rn.zip ra).take (prefN nn ra) := by
  unfold front prefN
  split
  · simp
  · exact zip_takeWhile (fun z => decide (z < (nn : Int))) rn ra h
/-- WHAT THE LAW RECKONS WITH: the watchers after the fill and after the reads up to p. -/
def wantM (i : Int) (p : Nat) (rn : List ByteArray) (ra : List Int) (L : List (ByteArray × Int × Bool × Int)) : Wms := ((rn.zip ra).take p).foldl (wstep i) (fillM L)
theorem want_watch (nn : Nat) (i : Int) (rn : List ByteArray) (ra : List Int) (L : List (ByteArray × Int × Bool × Int)) (h : rn.length = ra.length) : watchM nn i (rn.zip ra) (fillM L) = wantM i (prefN nn ra) rn ra L := by
  rw [watchM, front_pref nn rn ra h]; rfl
end Go.Proofs.Qxb6602244a
