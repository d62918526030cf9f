/-
  THE PLAIN READERS OF THIS SEAT: zzWordsB1 (39), zzPlusB1 (10), zzStrsBytesB1 (9), zzHasB1 (20), zzBoundInB1 (21).
-/
import Derived.Test.Qxb6602244aRows
import Derived.WalkKit
import Derived.ProofKit
import Derived.WalkSpells
import Derived.RegionTactic
import Derived.Deep.QuietTactic
import Derived.BigQuiet
import Derived.Lib.Strings
namespace Go.Proofs.Qxb6602244a
open Go.ChangeShapes Go.WideShapes Go.ChangeAt Go.RowKit
set_option linter.unusedVariables false

/-- WHAT IS KNOWN OF A SLICE THAT IS READ: its elements, one cell each. -/
structure Dat {α : Type} (enc : α → Value) (w : World) (a : Option Addr) (ds : List α) : Prop where
  at0 : 0 < ds.length → ∃ b off, a = some ⟨b, off, none⟩ ∧ b < w.heap.size ∧ ∀ i, (h : i < ds.length) → w.cell? ⟨b, off + i, none⟩ = some (enc ds[i])

theorem Dat.below {α : Type} {enc : α → Value} {w w' : World} {a : Option Addr} {ds : List α} (h : Dat enc w a ds) (hb : Below w.heap.size w w') : Dat enc w' a ds where
  at0 := by
    intro hp
    obtain ⟨b, off, e, hlt, hc⟩ := h.at0 hp
    exact ⟨b, off, e, Nat.lt_of_lt_of_le hlt hb.size, fun i hi => (hb.cell (p := ⟨b, off + i, none⟩) hlt).trans (hc i hi)⟩
theorem Dat.drewN {α : Type} {enc : α → Value} {w : World} {a : Option Addr} {ds : List α} (h : Dat enc w a ds) (k : Nat) : Dat enc (w.drewN k) a ds := ⟨h.at0⟩

theorem ret_int {k : IntKind} {a b : Int} (h : a = b) : Ending.returned (.int k a) = .returned (.int k b) := by rw [h]
theorem ret_bool {a b : Bool} (h : a = b) : Ending.returned (.bool a) = .returned (.bool b) := by rw [h]

theorem words_any (n : Int) (w : World) (h0 : 0 ≤ n) (h1 : n ≤ 9223372036854775807) :
    Calls Try.prog 39 #[.int .i64 n] w fun e w' => (∃ r : Int, e = .returned (.int .i64 r) ∧ 0 ≤ r ∧ r ≤ 8388608 ∧ (r ≤ 1048576 → r = 8 * n)) ∧ w' = w := by
  by_cases h : 1048576 < n
  · go_enter Try.func39, Try.ntmps39
    go_wp2
    go_ret
    exact ⟨⟨1048577, rfl, by omega, by omega, by omega⟩, rfl⟩
  · go_enter Try.func39, Try.ntmps39
    go_wp2
    go_ret
    exact ⟨⟨8 * n, rfl, by omega, by omega, fun _ => rfl⟩, rfl⟩

theorem plus_any (t b : Int) (w : World) (h0 : 0 ≤ t) (h1 : t ≤ 9223372036854775807) (h2 : 0 ≤ b) (h3 : b ≤ 9223372036854775807) :
    Calls Try.prog 10 #[.int .i64 t, .int .i64 b] w fun e w' => (∃ r : Int, e = .returned (.int .i64 r) ∧ 0 ≤ r ∧ r ≤ 1048577 ∧ (r ≤ 1048576 → r = t + b)) ∧ w' = w := by
  by_cases h : 1048576 - t < b
  · go_enter Try.func10, Try.ntmps10
    go_wp2
    go_ret
    exact ⟨⟨1048577, rfl, by omega, by omega, by omega⟩, rfl⟩
  · go_enter Try.func10, Try.ntmps10
    go_wp2
    go_ret
    exact ⟨⟨t + b, rfl, by omega, by omega, fun _ => rfl⟩, rfl⟩

set_option maxHeartbeats 1000000 in
theorem strs_any (a : Option Addr) (ss : List ByteArray) (cap : Nat) (w : World) (hn : ss.length ≤ 9223372036854775807) (hs : ∀ s ∈ ss, s.size ≤ 9223372036854775807) (hd : Dat Value.string w a ss) :
    Calls Try.prog 9 #[.slice a ss.length cap] w fun e w' => (∃ r : Int, e = .returned (.int .i64 r) ∧ 0 ≤ r ∧ r ≤ 8388608 ∧ (r ≤ 1048576 → 8 * (ss.length : Int) ≤ r)) ∧ w' = w := by
  have HS : Hid (∀ s ∈ ss, s.size ≤ 9223372036854775807) := hs
  clear hs
  go_enter Try.func9, Try.ntmps9
  go_wp2_with fail
  refine (words_any _ _ (by omega) (by omega)).mono ?_
  rintro e w1 ⟨⟨r0, rfl, hr0, hr1, hr2⟩, rfl⟩
  have HR : Hid (r0 ≤ 1048576 → 8 * (ss.length : Int) ≤ r0) := fun h => by have := hr2 h; omega
  clear hr2
  go_wp2
  go_loop [3, 4] (fun t j => ∃ (k : Nat) (r : Int), k ≤ ss.length ∧ j = .int .i64 k ∧ t = .int .i64 r ∧ 0 ≤ r ∧ r ≤ 8388608 ∧ (r ≤ 1048576 → 8 * (ss.length : Int) ≤ r)) (fun _ j => ss.length - (intOf j).toNat)
  case atStart => exact ⟨0, r0, Nat.zero_le _, rfl, rfl, hr0, hr1, HR.out⟩
  case round =>
    obtain ⟨k, r, hk, rfl, rfl, h0, h1, h2⟩ := hrel
    have H2 : Hid _ := h2
    clear h2 HR hr0 hr1
    by_cases hlt : k < ss.length
    · by_cases hr : r ≤ 1048576
      · obtain ⟨b, off, rfl, hb, hc⟩ := hd.at0 (by omega)
        have hck := hc k hlt
        have hsz := HS.out ss[k] (List.getElem_mem hlt)
        have h8 := H2.out hr
        clear hc
        go_wp2_with (go_at_call 10; refine (plus_any _ _ _ (by omega) (by omega) (by omega) (by omega)).mono ?_; rintro e w' ⟨⟨r', rfl, q0, q1, q2⟩, rfl⟩)
        go_round
        case rel => exact ⟨k + 1, r', by omega, by go_num, rfl, q0, by omega, fun h => by have := q2 h; omega⟩
        case measure => simp [intOf]; omega
      · go_wp2
        go_ret
        exact ⟨⟨r, rfl, h0, h1, H2.out⟩, rfl⟩
    · go_wp2
      all_goals
        go_ret
        exact ⟨⟨r, rfl, h0, h1, H2.out⟩, rfl⟩

theorem teq (a b : ByteArray) : (a.toList == b.toList) = decide (a = b) := by
  rw [Bool.eq_iff_iff]
  simp only [beq_iff_eq, decide_eq_true_eq, Lib.toList_data]
  constructor
  · intro h; exact ByteArray.ext (Array.ext' h)
  · intro h; rw [h]
theorem beqs (a b : ByteArray) : (a == b) = decide (a = b) := by
  have e : (a == b) = (a.data == b.data) := rfl
  rw [e, Bool.eq_iff_iff]
  simp only [beq_iff_eq, decide_eq_true_eq]
  constructor
  · intro h; exact ByteArray.ext h
  · intro h; rw [h]
theorem teq_yes {a b : ByteArray} (h : (a.toList == b.toList) = true) : a = b := by rw [teq] at h; simpa using h
theorem teq_no {a b : ByteArray} (h : (a.toList == b.toList) = false) : ¬ a = b := by rw [teq] at h; simpa using h

/-- is x among the names? -/
def has (ss : List ByteArray) (x : ByteArray) : Bool := ss.any (fun s => decide (s = x))
theorem has_iff (ss : List ByteArray) (x : ByteArray) : has ss x = true ↔ x ∈ ss := by simp [has]
theorem has_cons (ss : List ByteArray) (x : ByteArray) (k : Nat) (h : k < ss.length) : has (ss.drop k) x = (decide (ss[k] = x) || has (ss.drop (k + 1)) x) := by
  rw [List.drop_eq_getElem_cons h]
  rfl

/-- the last entry of a name decides. -/
def boundIn : List ByteArray → List Bool → ByteArray → Bool
  | n :: ns, b :: bs, x => if has ns x then boundIn ns bs x else if n = x then b else false
  | _, _, _ => false

set_option maxHeartbeats 1000000 in
theorem has_any (a : Option Addr) (ss : List ByteArray) (cap : Nat) (x : ByteArray) (w : World) (hn : ss.length ≤ 9223372036854775807) (hd : Dat Value.string w a ss) :
    Calls Try.prog 20 #[.slice a ss.length cap, .string x] w fun e w' => e = .returned (.bool (has ss x)) ∧ w' = w := by
  go_enter Try.func20, Try.ntmps20
  go_wp2
  go_loop [5] (fun j => ∃ k : Nat, k ≤ ss.length ∧ j = .int .i64 k ∧ has ss x = has (ss.drop k) x) (fun j => ss.length - (intOf j).toNat)
  case atStart => exact ⟨0, Nat.zero_le _, rfl, rfl⟩
  case round =>
    obtain ⟨k, hk, rfl, hh⟩ := hrel
    have HH : Hid _ := hh
    clear hh
    by_cases hlt : k < ss.length
    · obtain ⟨b, off, rfl, hb, hc⟩ := hd.at0 (by omega)
      have hck := hc k hlt
      clear hc
      go_wp2
      · go_ret
        exact ⟨ret_bool (by rw [HH.out, has_cons ss x k hlt, decide_eq_true (teq_yes ‹_›)]; rfl), rfl⟩
      · have hno : (ss[k].toList == x.toList) = false := by assumption
        have HN : Hid (has ss x = has (ss.drop (k + 1)) x) := by
          show _ = _
          rw [HH.out, has_cons ss x k hlt, decide_eq_false (teq_no hno)]; rfl
        go_round
        case rel => exact ⟨k + 1, by omega, by go_num, HN.out⟩
        case measure => simp [intOf]; omega
    · go_wp2
      go_ret
      exact ⟨ret_bool (by rw [HH.out, List.drop_eq_nil_of_le (by omega)]; rfl), rfl⟩

/-- what the scan from the end has still to see. -/
theorem bound_take : ∀ (ss : List ByteArray) (bs : List Bool) (x : ByteArray) (k : Nat), ss.length = bs.length → (h : k < ss.length) → (h' : k < bs.length) → (∀ i, k < i → (hi : i < ss.length) → ¬ ss[i] = x) →
    ss[k] = x → boundIn ss bs x = bs[k] := by
  intro ss
  induction ss with
  | nil => intro bs x k _ h; simp at h
  | cons n ns ih =>
    intro bs x k hl h h' hno hk
    cases bs with
    | nil => simp at h'
    | cons b bs =>
      cases k with
      | zero =>
        simp only [List.getElem_cons_zero] at hk ⊢
        have hx : ¬ has ns x = true := by
          intro hm
          rw [has_iff] at hm
          obtain ⟨i, hi, he⟩ := List.getElem_of_mem hm
          exact hno (i + 1) (by omega) (by simp; omega) (by simpa using he)
        simp [boundIn, hx, hk]
      | succ k =>
        simp only [List.getElem_cons_succ] at hk ⊢
        simp only [List.length_cons] at h h' hl
        have hx : has ns x = true := by rw [has_iff, ← hk]; exact List.getElem_mem _
        simp only [boundIn, hx, if_true]
        exact ih bs x k (by omega) (by omega) (by omega) (fun i hi hl' => by have := hno (i + 1) (by omega) (by simp; omega); simpa using this) hk
theorem bound_none : ∀ (ss : List ByteArray) (bs : List Bool) (x : ByteArray), ¬ x ∈ ss → boundIn ss bs x = false := by
  intro ss bs x h
  cases ss with
  | nil => rfl
  | cons n ns =>
    cases bs with
    | nil => rfl
    | cons b bs =>
      simp only [List.mem_cons, not_or] at h
      have hx : ¬ has ns x = true := by rw [has_iff]; exact h.2
      simp [boundIn, hx, Ne.symm h.1]

set_option maxHeartbeats 1000000 in
theorem bound_any (a a' : Option Addr) (ss : List ByteArray) (bs : List Bool) (cap cap' : Nat) (x : ByteArray) (w : World) (hn : ss.length ≤ 9223372036854775807) (hl : ss.length = bs.length)
    (hd : Dat Value.string w a ss) (hd' : Dat Value.bool w a' bs) :
    Calls Try.prog 21 #[.slice a ss.length cap, .slice a' bs.length cap', .string x] w fun e w' => e = .returned (.bool (boundIn ss bs x)) ∧ w' = w := by
  have HL : Hid (ss.length = bs.length) := hl
  have hle : ss.length ≤ bs.length := by omega
  clear hl
  go_enter Try.func21, Try.ntmps21
  go_wp2
  go_loop [7] (fun j => ∃ k : Nat, k ≤ ss.length ∧ j = .int .i64 ((k : Int) - 1) ∧ ∀ i, k ≤ i → (hi : i < ss.length) → ¬ ss[i] = x) (fun j => (intOf j + 1).toNat)
  case atStart => exact ⟨ss.length, Nat.le_refl _, rfl, fun i h hi => by omega⟩
  case round =>
    obtain ⟨k, hk, rfl, hh⟩ := hrel
    have HH : Hid _ := hh
    clear hh
    by_cases hlt : 0 < k
    · obtain ⟨q, rfl⟩ : ∃ q, k = q + 1 := ⟨k - 1, by omega⟩
      have hq : q < ss.length := by omega
      have hq' : q < bs.length := by omega
      obtain ⟨b, off, rfl, hb, hc⟩ := hd.at0 (by omega)
      obtain ⟨b', off', rfl, hb', hc'⟩ := hd'.at0 (by omega)
      have hck := hc q hq
      have hck' := hc' q hq'
      clear hc hc'
      go_wp2
      · go_ret
        exact ⟨ret_bool (bound_take ss bs x q HL.out hq hq' (fun i hi hl => HH.out i (by omega) hl) (teq_yes ‹_›)).symm, rfl⟩
      · have hno : (ss[q].toList == x.toList) = false := by assumption
        have HN := teq_no hno
        go_round
        case rel =>
          refine ⟨q, by omega, by go_num, ?_⟩
          intro i hi hl
          by_cases he : i = q
          · subst he; exact HN
          · exact HH.out i (by omega) hl
        case measure => simp [intOf]
    · go_wp2
      go_ret
      refine ⟨ret_bool (bound_none ss bs x ?_).symm, rfl⟩
      intro hm
      obtain ⟨i, hi, he⟩ := List.getElem_of_mem hm
      exact HH.out i (by omega) hi he
end Go.Proofs.Qxb6602244a
