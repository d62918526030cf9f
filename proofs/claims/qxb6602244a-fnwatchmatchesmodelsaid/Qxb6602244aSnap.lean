/-
  ZZWatcherB1 (44), ZZWatchLenB1 (47), ZZWatchNamesB1 (49).
-/
import Derived.Test.Qxb6602244aWatch
namespace Go.Proofs.Qxb6602244a
open Go.ChangeShapes Go.WideShapes Go.ChangeAt Go.RowKit
open ChangeMaps (setBlock)
set_option linter.unusedVariables false
set_option linter.unusedSimpArgs false

def okOf (o : Option (Bool × Int)) : Bool := o.isSome
def mineOf (o : Option (Bool × Int)) : Bool := match o with | some v => v.1 | none => false
def atOf (o : Option (Bool × Int)) : Int := match o with | some v => v.2 | none => 0
def trip (o : Option (Bool × Int)) : Value := .tuple #[.bool (okOf o), .bool (mineOf o), .int .i64 (atOf o)]

set_option maxHeartbeats 2000000 in
theorem watcher_any (B sb wm ab ob : Nat) (cs : List Value) (ca co : Array Value) (f : ByteArray → Nat) (M : Wms) (n : ByteArray) (e : Int) (w : World) (hs : w.heap[sb]? = some (.cells cs.toArray 87 (0, 0))) (h5 : cs[5]? = some (.map (some wm)))
    (hW : Wat w B wm ab ob f M) (ha : w.heap[ab]? = some (.cells ca 71 (0, 0))) (hob : w.heap[ob]? = some (.cells co 71 (0, 0))) (hne : ab ≠ ob) :
    Calls Try.prog 44 #[.pointer (some ⟨sb, 0, none⟩), .pointer (some ⟨ab, 0, none⟩), .string n, .int .i64 e] w fun r w' => r = .returned (trip (look M n e)) ∧ Below w.heap.size w w' := by
  have s5 := (cell_at hs 5).trans h5
  have hsb : sb < w.heap.size := (Array.getElem?_eq_some_iff.1 hs).1
  have HA : Hid _ := ha
  have HO : Hid _ := hob
  have HB : Hid (∀ o, Below w.heap.size w (w.alloc o)) := fun o => (Below.refl _ _).alloc (Nat.le_refl _) _
  have HBD : Hid (∀ o, Below w.heap.size w (w.alloc o).drew) := fun o => bel_ad w o
  clear hs h5 ha hob
  cases hg : get M n with
  | none =>
    have l1 := hW.look_none hg
    have l2 := look_nil (w := w) (keys_int (P := Try.prog) Try.underlying3) under94 zero96 e true
    simp only [if_true] at l2
    have HE : Hid (look M n e = none) := by show _ = _; simp [look, hg, get]
    clear hW
    go_enter Try.func44, Try.ntmps44
    go_wp2
    go_ret3
    rw [HE.out]
    exact ⟨rfl, HB.out _⟩
  | some m =>
    have l1 := hW.look_some hg
    cases hi : get m e with
    | none =>
      have l2 := hW.in_none hg hi
      have HE : Hid (look M n e = none) := by show _ = _; simp [look, hg, hi]
      clear hW
      go_enter Try.func44, Try.ntmps44
      go_wp2
      go_ret3
      rw [HE.out]
      exact ⟨rfl, HB.out _⟩
    | some v =>
      obtain ⟨mi, z⟩ := v
      have HE : Hid (look M n e = some (mi, z)) := by show _ = _; simp [look, hg, hi]
      cases mi with
      | true =>
        have l2 : _ = Result.ok (Value.tuple #[.agg #[.pointer (some ⟨ab, 0, none⟩), .int .i64 z], .bool true]) _ := hW.in_some hg hi
        have heq := eql29_same
        clear hW
        go_enter Try.func44, Try.ntmps44
        go_wp2
        go_region
        all_goals
          go_wp2
          go_ret3
          rw [HE.out]
          exact ⟨rfl, HBD.out _⟩
      | false =>
        have l2 : _ = Result.ok (Value.tuple #[.agg #[.pointer (some ⟨ob, 0, none⟩), .int .i64 z], .bool true]) _ := hW.in_some hg hi
        have heq := eql29_other (w := (w.alloc (.cells #[.pointer (some ⟨ob, 0, none⟩), .int .i64 z] 96)).drew) (Ne.symm hne) (KeepsC.below (bel_ad w _) _ _ _ _ HO.out) (KeepsC.below (bel_ad w _) _ _ _ _ HA.out)
        clear hW
        go_enter Try.func44, Try.ntmps44
        go_wp2
        go_region
        all_goals
          go_wp2
          go_ret3
          rw [HE.out]
          exact ⟨rfl, HBD.out _⟩

def lenOf (M : Wms) (n : ByteArray) : Int := ((get M n).getD []).length

set_option maxHeartbeats 2000000 in
theorem watchLen_any (B sb wm ab ob : Nat) (cs : List Value) (f : ByteArray → Nat) (M : Wms) (n : ByteArray) (w : World) (hs : w.heap[sb]? = some (.cells cs.toArray 87 (0, 0))) (h5 : cs[5]? = some (.map (some wm))) (hW : Wat w B wm ab ob f M) :
    Calls Try.prog 47 #[.pointer (some ⟨sb, 0, none⟩), .string n] w fun r w' => r = .returned (.int .i64 (lenOf M n)) ∧ w' = w := by
  have s5 := (cell_at hs 5).trans h5
  have hsb : sb < w.heap.size := (Array.getElem?_eq_some_iff.1 hs).1
  clear hs h5
  cases hg : get M n with
  | none =>
    have l1 := hW.look_none hg
    have l2 := fun ty => len_nil (P := Try.prog) (ty := ty) (w := w) under94
    have HE : Hid (lenOf M n = 0) := by show _ = _; simp [lenOf, hg]
    clear hW
    go_enter Try.func47, Try.ntmps47
    go_wp2
    go_ret
    rw [HE.out]
    exact ⟨rfl, rfl⟩
  | some m =>
    have l1 := hW.look_some hg
    have l2 := fun ty => len_map (P := Try.prog) (ty := ty) under94 (hW.inn n m hg).1
    simp only [inE_len] at l2
    have HE : Hid (lenOf M n = m.length) := by show _ = _; simp [lenOf, hg]
    clear hW
    go_enter Try.func47, Try.ntmps47
    go_wp2
    go_ret
    rw [HE.out]
    exact ⟨rfl, rfl⟩

set_option maxHeartbeats 2000000 in
theorem watchNames_any (B sb wm ab ob : Nat) (cs : List Value) (f : ByteArray → Nat) (M : Wms) (w : World) (hs : w.heap[sb]? = some (.cells cs.toArray 87 (0, 0))) (h5 : cs[5]? = some (.map (some wm))) (hW : Wat w B wm ab ob f M) :
    Calls Try.prog 49 #[.pointer (some ⟨sb, 0, none⟩)] w fun r w' => r = .returned (.int .i64 M.length) ∧ w' = w := by
  have s5 := (cell_at hs 5).trans h5
  have hsb : sb < w.heap.size := (Array.getElem?_eq_some_iff.1 hs).1
  clear hs h5
  have l2 := fun ty => len_map (P := Try.prog) (ty := ty) under84 hW.out
  simp only [outE_len] at l2
  clear hW
  go_enter Try.func49, Try.ntmps49
  go_wp2
  go_ret
  exact ⟨rfl, rfl⟩
end Go.Proofs.Qxb6602244a
