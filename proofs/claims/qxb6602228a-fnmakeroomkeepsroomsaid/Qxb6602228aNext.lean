/-
  THE WALK OF (*bytes.Buffer).Next (15).
-/
import Derived.Test.Qxb6602228aBuf
namespace Go.Proofs.Qxb6602228a
open Go.ChangeShapes Go.WideShapes Go.ChangeAt Go.RowKit
set_option linter.unusedVariables false

theorem Buf.ne {w : World} {b g n cap off : Nat} {cur : List Value} (h : Buf w b g n cap off cur) : g ≠ b := by
  intro e
  obtain ⟨lr, hb⟩ := h.hb
  have hg := h.hg
  rw [e, hb] at hg
  simp at hg
theorem Buf.free {w : World} {b g n cap off : Nat} {cur : List Value} (h : Buf w b g n cap off cur) (k : Nat) : w.frozen? ⟨b, k, none⟩ = false := by
  obtain ⟨lr, hb⟩ := h.hb
  exact free_at hb k
theorem Buf.drewN {w : World} {b g n cap off : Nat} {cur : List Value} (h : Buf w b g n cap off cur) (k : Nat) : Buf (w.drewN k) b g n cap off cur := ⟨h.hb, h.hg, h.len, h.on, h.nc, h.small⟩
theorem Buf.set2 {w : World} {b g n cap off : Nat} {cur : List Value} (h : Buf w b g n cap off cur) (x : Int) : Buf (w.setCell ⟨b, 2, none⟩ (.int .i8 x)) b g n cap off cur := by
  obtain ⟨lr, hb⟩ := h.hb
  refine ⟨⟨x, ?_⟩, ?_, h.len, h.on, h.nc, h.small⟩
  · rw [heap_setCell_same w b 2 _ 38 _ hb]; rfl
  · rw [heap_setCell_other w ⟨b, 2, none⟩ g _ h.ne]; exact h.hg
theorem Buf.set1 {w : World} {b g n cap off : Nat} {cur : List Value} (h : Buf w b g n cap off cur) (o : Nat) (ho : o ≤ n) : Buf (w.setCell ⟨b, 1, none⟩ (.int .i64 o)) b g n cap o cur := by
  obtain ⟨lr, hb⟩ := h.hb
  refine ⟨⟨lr, ?_⟩, ?_, h.len, ho, h.nc, h.small⟩
  · rw [heap_setCell_same w b 1 _ 38 _ hb]; rfl
  · rw [heap_setCell_other w ⟨b, 1, none⟩ g _ h.ne]; exact h.hg
theorem grownBy_refl (w : World) (r : Option Nat) : w.grownBy w r := ⟨rfl, rfl, rfl, Nat.le_refl _, fun _ _ _ => rfl⟩
theorem grownBy_drewN {w w1 : World} {r : Option Nat} (h : w.grownBy w1 r) (k : Nat) : w.grownBy (w1.drewN k) r := ⟨h.os, h.tape, h.output, h.size, h.block⟩
theorem grownBy_set {w w1 : World} {b : Nat} (h : w.grownBy w1 (some b)) (k : Nat) (v : Value) : w.grownBy (w1.setCell ⟨b, k, none⟩ v) (some b) :=
  ⟨h.os, h.tape, h.output, by rw [World.size_setCell]; exact h.size, fun j hj hne => by
    rw [heap_setCell_other w1 ⟨b, k, none⟩ j v (fun e => hne (by rw [e]))]; exact h.block j hj hne⟩

set_option maxHeartbeats 1000000 in
theorem next_any {b g n cap : Nat} {cur : List Value} {w : World} (m : Nat) (hm : m ≤ n) (h : Buf w b g n cap 0 cur) :
    Calls Try.prog 15 #[.pointer (some ⟨b, 0, none⟩), .int .i64 m] w fun e w' => (∃ v, e = .returned v) ∧ Buf w' b g n cap m cur ∧ w.grownBy w' (some b) := by
  obtain ⟨c0, c1⟩ := h.cells
  have h2 := h.nc
  have h3 := h.small
  have f1 := h.free 1
  have f2 := h.free 2
  obtain ⟨lr, hb⟩ := h.hb
  have c2 := cell_at (cs := [_, _, _]) hb 2
  clear hb
  simp only [List.getElem?_cons_succ, List.getElem?_cons_zero] at c2
  go_enter Try.func15, Try.ntmps15
  go_wp2_with fail
  refine (len_any (h.set2 0)).mono ?_
  rintro e w1 ⟨rfl, k, hw1⟩
  have HB : Buf w1 b g n cap 0 cur := hw1 ▸ (h.set2 0).drewN k
  have HG : w.grownBy w1 (some b) := hw1 ▸ grownBy_drewN (grownBy_set (grownBy_refl w _) 2 _) k
  clear hw1 c0 c1 c2 f1 f2
  obtain ⟨c0, c1⟩ := HB.cells
  have f1 := HB.free 1
  have f2 := HB.free 2
  obtain ⟨lr, hb⟩ := HB.hb
  have c2 := cell_at (cs := [_, _, _]) hb 2
  clear hb
  simp only [List.getElem?_cons_succ, List.getElem?_cons_zero, Int.natCast_zero] at c2 c1
  go_wp2
  go_quiet (fail)
  by_cases hm0 : 0 < m
  · go_wp2
    go_ret
    exact ⟨⟨_, rfl⟩, ((HB.drewN _).set1 m hm).set2 _, grownBy_set (grownBy_set (grownBy_drewN HG _) 1 _) 2 _⟩
  · go_wp2
    go_ret
    exact ⟨⟨_, rfl⟩, (HB.drewN _).set1 m hm, grownBy_set (grownBy_drewN HG _) 1 _⟩
end Go.Proofs.Qxb6602228a
