/-
  THE WALK OF heldBuffer (6).
-/
import Derived.Test.Qxb6602228aNext
import Derived.Laws.MakeOwn
import Derived.Laws.OwnMore
namespace Go.Proofs.Qxb6602228a
open Go.ChangeShapes Go.WideShapes Go.ChangeAt Go.RowKit
set_option linter.unusedVariables false

theorem info5 : (Try.prog.info? 5).map (fun i => (i.zero, i.size, i.bytes)) = some (some (.int .u8 0), 1, 1) := by kernel_rfl
def U8 (n : Int) : Value := .int .u8 n

/-- 'make([]byte, l, c)': a new row of c noughts. -/
theorem mk_bytes (L C : Int) (l c : Nat) (hL : L = l) (hC : C = c) (hlc : l ≤ c) (hc : c ≤ 4194304) (w : World) :
    (Instr.makeSlice 22 (.int .i64 L) (.int .i64 C)).run Try.prog w = .ok (.slice (some ⟨w.heap.size, 0, none⟩) l c) (w.alloc (.cells (List.replicate c (U8 0)).toArray 5)) := by
  obtain ⟨i0, hi, hz0, hz1, hz2⟩ := info_parts info5
  subst hL; subst hC
  have h := run_make (P := Try.prog) w 22 5 i0 (.int .u8 0) Try.underlying22 hi hz0 .i64 .i64 l c (by omega) (by omega) (by rw [hz2]; omega) (by omega)
  rw [h]
  simp only [Int.toNat_natCast, hz1, Nat.mul_one]
  have e : madeCells (Value.int .u8 0).cells c = (List.replicate c (U8 0)).toArray := by
    apply Array.ext'
    rw [show (Value.int .u8 0).cells = #[.int .u8 0] from rfl, toList_madeCells_one]
    rfl
  rw [e]

/-- WHAT IS KNOWN OF THE SLICE THAT CAME IN. -/
structure Dat (w : World) (a : Option Addr) (ds : List Int) : Prop where
  at0 : 0 < ds.length → ∃ db doff, a = some ⟨db, doff, none⟩ ∧ db < w.heap.size ∧ ∀ i, (h : i < ds.length) → w.cell? ⟨db, doff + i, none⟩ = some (U8 ds[i])

/-- the row while it is filled. -/
def row (skip spare : Nat) (ds : List Int) (k : Nat) : List Value := List.replicate skip (U8 0) ++ ((ds.take k).map U8 ++ List.replicate (ds.length - k + spare) (U8 0))
theorem row_len (skip spare : Nat) (ds : List Int) (k : Nat) (h : k ≤ ds.length) : (row skip spare ds k).length = skip + ds.length + spare := by
  simp [row]; omega
theorem row_zero (skip spare : Nat) (ds : List Int) : row skip spare ds 0 = List.replicate (skip + ds.length + spare) (U8 0) := by
  simp only [row, List.take_zero, List.map_nil, List.nil_append, Nat.sub_zero, List.replicate_append_replicate]
  congr 1; omega
theorem row_set (skip spare : Nat) (ds : List Int) (k : Nat) (h : k < ds.length) : (row skip spare ds k).set (skip + k) (U8 ds[k]) = row skip spare ds (k + 1) := by
  unfold row
  rw [List.set_append_right _ _ (by simp), List.set_append_right _ _ (by simp; omega)]
  rw [List.take_succ_eq_append_getElem h, List.map_append, List.append_assoc]
  congr 2
  have e : ds.length - k + spare = (ds.length - (k + 1) + spare) + 1 := by omega
  rw [e, List.replicate_succ]
  have e2 : skip + k - (List.replicate skip (U8 0)).length - ((ds.take k).map U8).length = 0 := by simp; omega
  rw [e2]
  rfl
theorem row_full (skip spare : Nat) (ds : List Int) : row skip spare ds ds.length = List.replicate skip (U8 0) ++ (ds.map U8 ++ List.replicate spare (U8 0)) := by
  simp [row]
theorem row_cell (skip spare : Nat) (ds : List Int) (k : Nat) (h : k < ds.length) : (row skip spare ds k)[skip + k]? = some (U8 0) := by
  unfold row
  rw [List.getElem?_append_right (by simp), List.getElem?_append_right (by simp; omega)]
  have e2 : skip + k - (List.replicate skip (U8 0)).length - ((ds.take k).map U8).length = 0 := by simp; omega
  rw [e2, List.getElem?_replicate, if_pos (by omega)]

/-- what the loop keeps. -/
structure Fill (w : World) (skip spare : Nat) (ds : List Int) (k : Nat) (wr : World) : Prop where
  bel : Below w.heap.size w wr
  size : wr.heap.size = w.heap.size + 1
  at0 : wr.heap[w.heap.size]? = some (.cells (row skip spare ds k).toArray 5 (0, 0))

theorem fill_start (w : World) (skip spare : Nat) (ds : List Int) : Fill w skip spare ds 0 (w.alloc (.cells (List.replicate (skip + ds.length + spare) (U8 0)).toArray 5)) where
  bel := (Below.refl _ _).alloc (Nat.le_refl _) _
  size := by simp
  at0 := by rw [row_zero]; exact heap_alloc_new w _
theorem fill_step {w : World} {skip spare : Nat} {ds : List Int} {k : Nat} {wr : World} (h : Fill w skip spare ds k wr) (hk : k < ds.length) :
    Fill w skip spare ds (k + 1) (wr.setCell ⟨w.heap.size, skip + k, none⟩ (U8 ds[k])) where
  bel := h.bel.setCell (Nat.le_refl _) _
  size := by rw [World.size_setCell]; exact h.size
  at0 := by
    rw [heap_setCell_same wr w.heap.size (skip + k) _ 5 _ h.at0, ← row_set skip spare ds k hk]
    simp

set_option maxHeartbeats 1000000 in
theorem held_any (a0 : Option Addr) (ds : List Int) (cap0 skip spare : Nat) (w : World) (hd : Dat w a0 ds) (h1 : ds.length ≤ 1048576) (h2 : skip ≤ 65536) (h3 : spare ≤ 65536) :
    Calls Try.prog 6 #[.slice a0 ds.length cap0, .int .i64 skip, .int .i64 spare] w fun e w' => ∃ b g, w.heap.size ≤ b ∧ w.heap.size ≤ g ∧
      e = .returned (.tuple #[.pointer (some ⟨b, 0, none⟩), .slice (some ⟨g, 0, none⟩) (skip + ds.length) (skip + ds.length + spare)]) ∧
      Buf w' b g (skip + ds.length) (skip + ds.length + spare) skip (row skip spare ds ds.length) ∧ Below w.heap.size w w' := by
  have hmk := mk_bytes ((skip : Int) + ds.length) ((skip : Int) + ds.length + spare) (skip + ds.length) (skip + ds.length + spare) (by omega) (by omega) (by omega) (by omega)
  go_enter Try.func6, Try.ntmps6
  go_wp2
  go_loopw [10] (fun i wr => ∃ k : Nat, k ≤ ds.length ∧ i = .int .i64 k ∧ Fill w skip spare ds k wr) (fun i _ => ds.length - (intOf i).toNat)
  case atStart => exact ⟨0, Nat.zero_le _, rfl, fill_start w skip spare ds⟩
  case round =>
    obtain ⟨k, hk, rfl, hF⟩ := hrel
    by_cases hlt : k < ds.length
    · obtain ⟨db, doff, rfl, hdb, hcells⟩ := hd.at0 (by omega)
      have hc := (hF.bel.cell (p := ⟨db, doff + k, none⟩) hdb).trans (hcells k hlt)
      have ho := cell_at hF.at0 (skip + k)
      rw [row_cell skip spare ds k hlt] at ho
      have hf := free_at hF.at0 (skip + k)
      clear hcells hmk hd
      unfold U8 at hc ho
      go_wp2
      go_roundw
      case rel => exact ⟨k + 1, by omega, by go_num, fill_step hF hlt⟩
      case measure => simp [intOf]; omega
    · obtain rfl : k = ds.length := by omega
      have hlen := row_len skip spare ds ds.length (Nat.le_refl _)
      clear hmk hd
      go_wp2_with fail
      have hsz := hF.size
      refine (new_any .nilIface _ _ _ _).mono ?_
      rintro e w1 ⟨rfl, hw1⟩
      have hB : Buf w1 wr.heap.size w.heap.size (skip + ds.length) (skip + ds.length + spare) 0 (row skip spare ds ds.length) := by
        refine ⟨⟨0, ?_⟩, ?_, hlen, Nat.zero_le _, by omega, by omega⟩
        · rw [hw1]; exact heap_alloc_new wr _
        · rw [hw1, Below.heap_alloc wr _ _ (by omega)]; exact hF.at0
      have hL : Below w.heap.size w w1 := by rw [hw1]; exact hF.bel.alloc (by omega) _
      have hs1 : w.heap.size ≤ wr.heap.size := by omega
      have hs2 : wr.heap.size ≤ w1.heap.size := by rw [hw1]; simp
      clear hw1 hsz
      go_wp2_with fail
      refine (next_any skip (by omega) hB).mono ?_
      rintro e w2 ⟨⟨v, rfl⟩, hB2, hG⟩
      go_wp2
      go_ret2
      have hrow : ∀ q, some wr.heap.size = some q → w.heap.size ≤ q := by intro q hq; injection hq with hq; omega
      exact ⟨_, _, hs1, Nat.le_refl _, rfl, hB2, hL.grown hG (by have := hL.size; omega) hrow⟩
end Go.Proofs.Qxb6602228a
