/-
  THE WALKS OF bytes.Buffer's Len (8), Bytes (10), Available (11), Cap (12), NewBuffer (14).
-/
import Derived.Test.Qxb6602228aRows
import Derived.WalkKit
import Derived.ProofKit
import Derived.WalkSpells
import Derived.RegionTactic
import Derived.Deep.QuietTactic
import Derived.BigQuiet
namespace Go.Proofs.Qxb6602228a
open Go.ChangeShapes Go.WideShapes Go.ChangeAt Go.RowKit
set_option linter.unusedVariables false

/-- A BUFFER IN BLOCK b: its row in block g, n cells of it in use (of cap), the first 'off' read off. -/
structure Buf (w : World) (b g n cap off : Nat) (cur : List Value) : Prop where
  hb : ∃ lr : Int, w.heap[b]? = some (.cells #[.slice (some ⟨g, 0, none⟩) n cap, .int .i64 off, .int .i8 lr] 38 (0, 0))
  hg : w.heap[g]? = some (.cells cur.toArray 5 (0, 0))
  len : cur.length = cap
  on : off ≤ n
  nc : n ≤ cap
  small : cap ≤ 4194304

theorem cell_at {w : World} {b : Nat} {cs : List Value} {t : TypeId} (h : w.heap[b]? = some (.cells cs.toArray t (0, 0))) (k : Nat) : w.cell? ⟨b, k, none⟩ = cs[k]? := by
  rw [cell_of_row w b k cs.toArray t (0, 0) h]; simp
theorem free_at {w : World} {b : Nat} {cs : Array Value} {t : TypeId} (h : w.heap[b]? = some (.cells cs t (0, 0))) (k : Nat) : w.frozen? ⟨b, k, none⟩ = false := by
  simp [World.frozen?, h]

theorem Buf.cells {w : World} {b g n cap off : Nat} {cur : List Value} (h : Buf w b g n cap off cur) :
    w.cell? ⟨b, 0, none⟩ = some (.slice (some ⟨g, 0, none⟩) n cap) ∧ w.cell? ⟨b, 1, none⟩ = some (.int .i64 off) := by
  obtain ⟨lr, hb⟩ := h.hb
  exact ⟨cell_at (cs := [_, _, _]) hb 0, cell_at (cs := [_, _, _]) hb 1⟩

set_option maxHeartbeats 400000 in
theorem len_any {b g n cap off : Nat} {cur : List Value} {w : World} (h : Buf w b g n cap off cur) :
    Calls Try.prog 8 #[.pointer (some ⟨b, 0, none⟩)] w fun e w' => e = .returned (.int .i64 ((n : Int) - off)) ∧ ∃ k, w' = w.drewN k := by
  obtain ⟨c0, c1⟩ := h.cells
  have h1 := h.on
  have h2 := h.nc
  have h3 := h.small
  go_enter Try.func8, Try.ntmps8
  go_wp2
  go_quiet (fail)
  go_wp2
  go_ret
  exact ⟨rfl, _, rfl⟩

set_option maxHeartbeats 400000 in
theorem avail_any {b g n cap off : Nat} {cur : List Value} {w : World} (h : Buf w b g n cap off cur) :
    Calls Try.prog 11 #[.pointer (some ⟨b, 0, none⟩)] w fun e w' => e = .returned (.int .i64 ((cap : Int) - n)) ∧ ∃ k, w' = w.drewN k := by
  obtain ⟨c0, c1⟩ := h.cells
  have h1 := h.on
  have h2 := h.nc
  have h3 := h.small
  go_enter Try.func11, Try.ntmps11
  go_wp2
  go_quiet (fail)
  go_wp2
  go_ret
  exact ⟨rfl, _, rfl⟩

set_option maxHeartbeats 400000 in
theorem cap_any {b g n cap off : Nat} {cur : List Value} {w : World} (h : Buf w b g n cap off cur) :
    Calls Try.prog 12 #[.pointer (some ⟨b, 0, none⟩)] w fun e w' => e = .returned (.int .i64 (cap : Int)) ∧ w' = w := by
  obtain ⟨c0, c1⟩ := h.cells
  go_enter Try.func12, Try.ntmps12
  go_wp2
  go_ret
  exact ⟨rfl, rfl⟩

/-- where 'buf[off:]' begins: Go hands back the row's own head where nothing of it is left. -/
def bo (cap off : Nat) : Nat := if cap = off then 0 else off
theorem bo_eq {cap off : Nat} (h : off < cap) : bo cap off = off := by unfold bo; rw [if_neg (by omega)]

set_option maxHeartbeats 400000 in
theorem bytes_any {b g n cap off : Nat} {cur : List Value} {w : World} (h : Buf w b g n cap off cur) :
    Calls Try.prog 10 #[.pointer (some ⟨b, 0, none⟩)] w fun e w' => e = .returned (.slice (some ⟨g, bo cap off, none⟩) (n - off) (cap - off)) ∧ ∃ k, w' = w.drewN k := by
  obtain ⟨c0, c1⟩ := h.cells
  have h1 := h.on
  have h2 := h.nc
  have h3 := h.small
  unfold bo
  by_cases hc : cap = off
  · obtain rfl : n = off := by omega
    subst hc
    rw [if_pos rfl]
    go_enter Try.func10, Try.ntmps10
    go_wp2
    go_quiet (fail)
    go_wp2
    go_ret
    exact ⟨by simp, _, rfl⟩
  · rw [if_neg hc]
    have hc' : off < cap := by omega
    go_enter Try.func10, Try.ntmps10
    go_wp2
    go_quiet (fail)
    go_wp2
    go_ret
    exact ⟨rfl, _, rfl⟩

set_option maxHeartbeats 400000 in
theorem new_any (v : Value) (w : World) (n cap : Nat) (a : Addr) :
    Calls Try.prog 14 #[.slice (some a) n cap] w fun e w' => e = .returned (.pointer (some ⟨w.heap.size, 0, none⟩)) ∧ w' = w.alloc (.cells #[.slice (some a) n cap, .int .i64 0, .int .i8 0] 38) := by
  go_enter Try.func14, Try.ntmps14
  go_wp2
  go_ret
  exact ⟨rfl, rfl⟩
end Go.Proofs.Qxb6602228a
