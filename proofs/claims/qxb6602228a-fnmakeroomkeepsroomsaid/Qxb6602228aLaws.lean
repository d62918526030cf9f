/-
  THE WALKS OF THE TWO LAWS (3, 4).
-/
import Derived.Test.Qxb6602228aRoom
import Derived.Test.Qxb6602228aPtr
import Derived.OpenShut
namespace Go.Proofs.Qxb6602228a
open Go.ChangeShapes Go.WideShapes Go.ChangeAt Go.RowKit
set_option linter.unusedVariables false

theorem buf_dat {w : World} {b g n cap off : Nat} {cur : List Value} {ds : List Int} (h : Buf w b g n cap off cur) (hu : unread cur n off = ds.map U8) : Dat w (some ⟨g, bo cap off, none⟩) ds where
  at0 := by
    intro hp
    have hl := unread_len h
    rw [hu, List.length_map] at hl
    have := h.nc
    refine ⟨g, off, by rw [bo_eq (by omega)], (Array.getElem?_eq_some_iff.1 h.hg).1, ?_⟩
    intro i hi
    exact unread_at h i _ (by rw [hu, List.getElem?_map, List.getElem?_eq_getElem hi]; rfl)
theorem dat_below {w w' : World} {a : Option Addr} {ds : List Int} (h : Dat w a ds) (hb : Below w.heap.size w w') : Dat w' a ds where
  at0 := by
    intro hp
    obtain ⟨db, doff, e, hdb, hc⟩ := h.at0 hp
    exact ⟨db, doff, e, Nat.lt_of_lt_of_le hdb hb.size, fun i hi => (hb.cell (p := ⟨db, doff + i, none⟩) hdb).trans (hc i hi)⟩
theorem unread_row (skip spare : Nat) (ds : List Int) : unread (row skip spare ds ds.length) (skip + ds.length) skip = ds.map U8 := by
  rw [row_full]
  unfold unread
  rw [List.drop_left' (by simp), show skip + ds.length - skip = ds.length from by omega, List.take_left' (by simp)]
theorem unread_front (ds : List Int) (m : Nat) : unread (ds.map U8 ++ List.replicate m (U8 0)) ds.length 0 = ds.map U8 := by
  unfold unread
  rw [List.drop_zero, Nat.sub_zero, List.take_left' (by simp)]
theorem row_one (skip spare : Nat) (ds : List Int) : ∀ v ∈ row skip spare ds ds.length, v.oneCell' = true := by
  rw [row_full]
  intro v hv
  simp only [List.mem_append, List.mem_replicate, List.mem_map] at hv
  rcases hv with ⟨_, rfl⟩ | ⟨x, _, rfl⟩ | ⟨_, rfl⟩ <;> rfl
theorem below_kept {w0 w w1 : World} {k : Nat} (h : Below w0.heap.size w0 w) (e : w1 = w.drewN k) : Below w0.heap.size w0 w1 := by
  subst e; exact ⟨h.os, h.tape, h.output, h.size, h.block⟩

theorem info5' : ∃ j, Try.prog.info? 5 = some j ∧ j.size ≠ 0 := by
  obtain ⟨i0, hi, hz0, hz1, hz2⟩ := info_parts info5
  exact ⟨i0, hi, by rw [hz1]; decide⟩
theorem ptr_same (W : World) (a : Addr) : (binOp .neq 31 (.pointer (some a)) (.pointer (some a))).run Try.prog W = .ok (.bool false) W := by
  obtain ⟨j, hj, _⟩ := info5'
  exact run_neq_ptr_same W a Try.underlying31 hj
theorem ptr_other (W : World) (a b : Addr) {ca cb : Array Value} {ta tb : TypeId} (hne : a ≠ b) (ha : W.heap[a.block]? = some (.cells ca ta (0, 0))) (hb : W.heap[b.block]? = some (.cells cb tb (0, 0))) :
    (binOp .eql 31 (.pointer (some a)) (.pointer (some b))).run Try.prog W = .ok (.bool false) W := by
  obtain ⟨j, hj, hs⟩ := info5'
  exact run_eql_ptr_other W Try.underlying31 hj hs hne ha hb

set_option maxHeartbeats 2000000 in
theorem exact_stays (a0 : Option Addr) (ds : List Int) (cap0 skip spare : Nat) (n : Int) (w : World) (hD : Dat w a0 ds) (h1 : ds.length ≤ 1048576) (h2 : skip ≤ 65536) (h3 : spare ≤ 65536)
    (hn0 : -9223372036854775808 ≤ n) (hn : n ≤ spare) :
    Calls Try.prog 3 #[.slice a0 ds.length cap0, .int .i64 spare, .int .i64 skip, .int .i64 n] w fun e w' => e = .returned (.bool true) ∧ Below w.heap.size w w' := by
  go_enter Try.func3, Try.ntmps3
  go_wp2_with (go_at_call 5; go_in)
  refine (held_any a0 ds cap0 skip spare _ hD h1 h2 h3).mono ?_
  rintro e w1 ⟨b, g, hb, hg, rfl, B1, L1⟩
  go_wp2_with fail
  refine (zz_stays n (by omega) B1).mono ?_
  rintro e w2 ⟨rfl, k2, hw2⟩
  have B2 := B1.of_heap (kept_drewN hw2).2
  have L2 := below_kept L1 hw2
  clear hw2 B1 L1
  go_wp2_with fail
  refine (len_any B2).mono ?_
  rintro e w3 ⟨rfl, k3, hw3⟩
  have B3 := B2.of_heap (kept_drewN hw3).2
  have L3 := below_kept L2 hw3
  clear hw3 B2 L2
  go_wp2_with fail
  refine (bytes_any B3).mono ?_
  rintro e w4 ⟨rfl, k4, hw4⟩
  have B4 := B3.of_heap (kept_drewN hw4).2
  have L4 := below_kept L3 hw4
  clear hw4 B3 L3
  go_wp2_with fail
  refine (same_any _ _ ds _ _ _ h1 (buf_dat B4 (unread_row skip spare ds)) (dat_below hD L4)).mono ?_
  rintro e w5 ⟨rfl, k5, hw5⟩
  have B5 := B4.of_heap (kept_drewN hw5).2
  have L5 := below_kept L4 hw5
  clear hw5 B4 L4
  go_wp2_with fail
  refine (avail_any B5).mono ?_
  rintro e w6 ⟨rfl, k6, hw6⟩
  have B6 := B5.of_heap (kept_drewN hw6).2
  have L6 := below_kept L5 hw6
  clear hw6 B5 L5
  go_wp2_with fail
  refine (cap_any B6).mono ?_
  rintro e w7 ⟨rfl, rfl⟩
  by_cases hp : 0 < ds.length
  · have hpi : (0 : Int) < (ds.length : Int) := by omega
    have hbo : bo (skip + ds.length + spare) skip = skip := bo_eq (by omega)
    have hi1 : (skip : Int) < (skip : Int) + (ds.length : Int) := by omega
    have hq := fun W => ptr_same W ⟨g, skip, none⟩
    go_wp2_with fail
    go_quiet ((go_at_call 10; exact Calls.quiet_of (bytes_any (B6.drewN _))))
    go_wp2
    go_ret
    exact ⟨rfl, below_kept L6 rfl⟩
  · have hpi : decide ((0 : Int) < (ds.length : Int)) = false := by simpa using hp
    go_wp2_with fail
    go_quiet ((go_at_call 10; exact Calls.quiet_of (bytes_any (B6.drewN _))))
    go_wp2
    go_ret
    exact ⟨rfl, below_kept L6 rfl⟩

theorem bo_zero (c : Nat) : bo c 0 = 0 := by unfold bo; split <;> rfl

/-- WHAT STANDS BEHIND makeRoom WHERE IT MUST GROW. -/
theorem grown_state {w w1 w2 : World} {b g g2 skip spare n : Nat} {ds : List Int} (B1 : Buf w1 b g (skip + ds.length) (skip + ds.length + spare) skip (row skip spare ds ds.length)) (L1 : Below w.heap.size w w1) (hb : w.heap.size ≤ b)
    (h2 : w1.heap.size ≤ g2)
    (B2 : Buf w2 b g2 (skip + ds.length - skip) (skip + ds.length - skip + n) 0 (unread (row skip spare ds ds.length) (skip + ds.length) skip ++ List.replicate n (U8 0))) (hG : w1.grownBy w2 (some b)) :
    Buf w2 b g2 ds.length (ds.length + n) 0 (ds.map U8 ++ List.replicate n (U8 0)) ∧ Below w.heap.size w w2 ∧ g ≠ g2 ∧ (w2.heap[g]? = some (.cells (row skip spare ds ds.length).toArray 5 (0, 0))) := by
  rw [unread_row, show skip + ds.length - skip = ds.length from by omega] at B2
  have hgl : g < w1.heap.size := (Array.getElem?_eq_some_iff.1 B1.hg).1
  refine ⟨B2, L1.grown hG L1.size ?_, by omega, ?_⟩
  · intro q hq; injection hq with hq; omega
  · rw [hG.block g hgl (by intro e; injection e with e; exact B1.ne e)]; exact B1.hg

set_option maxHeartbeats 2000000 in
theorem exact_grows (a0 : Option Addr) (ds : List Int) (cap0 skip spare n : Nat) (w : World) (hD : Dat w a0 ds) (h1 : ds.length ≤ 1048576) (h2 : skip ≤ 65536) (h3 : spare ≤ 65536)
    (hn0 : spare < n) (hn : n ≤ 65536) :
    Calls Try.prog 3 #[.slice a0 ds.length cap0, .int .i64 spare, .int .i64 skip, .int .i64 n] w fun e w' => e = .returned (.bool true) ∧ Below w.heap.size w w' := by
  go_enter Try.func3, Try.ntmps3
  go_wp2_with (go_at_call 5; go_in)
  refine (held_any a0 ds cap0 skip spare _ hD h1 h2 h3).mono ?_
  rintro e w1 ⟨b, g, hb, hg, rfl, B1, L1⟩
  go_wp2_with fail
  refine (zz_grows n (by omega) hn (by omega) (row_one skip spare ds) B1).mono ?_
  rintro e w2 ⟨rfl, g2, hg2, B2', hG⟩
  obtain ⟨B2, L2, hne, hgo⟩ := grown_state B1 L1 hb hg2 B2' hG
  have HG2 : Hid _ := hgo
  clear hgo B1 L1 B2' hG
  go_wp2_with fail
  refine (len_any B2).mono ?_
  rintro e w3 ⟨rfl, k3, hw3⟩
  have B3 := B2.of_heap (kept_drewN hw3).2
  have L3 := below_kept L2 hw3
  have HG3 : Hid _ := (congrArg (·[g]?) (kept_drewN hw3).2).trans HG2.out
  clear hw3 B2 L2 HG2
  go_wp2_with fail
  refine (bytes_any B3).mono ?_
  rintro e w4 ⟨rfl, k4, hw4⟩
  have B4 := B3.of_heap (kept_drewN hw4).2
  have L4 := below_kept L3 hw4
  have HG4 : Hid _ := (congrArg (·[g]?) (kept_drewN hw4).2).trans HG3.out
  clear hw4 B3 L3 HG3
  go_wp2_with fail
  refine (same_any _ _ ds _ _ _ h1 (buf_dat B4 (unread_front ds n)) (dat_below hD L4)).mono ?_
  rintro e w5 ⟨rfl, k5, hw5⟩
  have B5 := B4.of_heap (kept_drewN hw5).2
  have L5 := below_kept L4 hw5
  have HG5 : Hid _ := (congrArg (·[g]?) (kept_drewN hw5).2).trans HG4.out
  clear hw5 B4 L4 HG4
  go_wp2_with fail
  refine (avail_any B5).mono ?_
  rintro e w6 ⟨rfl, k6, hw6⟩
  have B6 := B5.of_heap (kept_drewN hw6).2
  have L6 := below_kept L5 hw6
  have HG6 : Hid _ := (congrArg (·[g]?) (kept_drewN hw6).2).trans HG5.out
  clear hw6 B5 L5 HG5
  go_wp2_with fail
  refine (cap_any B6).mono ?_
  rintro e w7 ⟨rfl, rfl⟩
  by_cases hp : 0 < ds.length
  · have hpi : (0 : Int) < (ds.length : Int) := by omega
    have hbo : bo (ds.length + n) 0 = 0 := bo_zero _
    have hi1 : (skip : Int) < (skip : Int) + (ds.length : Int) := by omega
    have hq := fun q => ptr_other (w7.drewN q) ⟨g2, 0, none⟩ ⟨g, skip, none⟩ (by intro e; apply hne; injection e with e; exact e.symm) B6.hg HG6.out
    go_wp2_with fail
    go_quiet ((go_at_call 10; exact Calls.quiet_of (bytes_any (B6.drewN _))))
    go_wp2
    go_ret
    exact ⟨rfl, below_kept L6 rfl⟩
  · have hpi : decide ((0 : Int) < (ds.length : Int)) = false := by simpa using hp
    go_wp2_with fail
    go_quiet ((go_at_call 10; exact Calls.quiet_of (bytes_any (B6.drewN _))))
    go_wp2
    go_ret
    exact ⟨rfl, below_kept L6 rfl⟩
end Go.Proofs.Qxb6602228a
