/-
  THE WALKS OF makeRoom (16), ZZmakeRoom (7), sameBytes (9).
-/
import Derived.Test.Qxb6602228aHeld
import Derived.Laws.CopyOwn
namespace Go.Proofs.Qxb6602228a
open Go.ChangeShapes Go.WideShapes Go.ChangeAt Go.RowKit
set_option linter.unusedVariables false

theorem size5 : (Try.prog.info? 5).map (·.size) = some 1 := by kernel_rfl

set_option maxHeartbeats 1000000 in
theorem room_stays {b g n cap off : Nat} {cur : List Value} {w : World} (m : Int) (hm : m ≤ (cap : Int) - n) (h : Buf w b g n cap off cur) :
    Calls Try.prog 16 #[.pointer (some ⟨b, 0, none⟩), .int .i64 m] w fun e w' => e = .returned (.tuple #[]) ∧ ∃ k, w' = w.drewN k := by
  go_enter Try.func16, Try.ntmps16
  go_wp2_with fail
  refine (avail_any h).mono ?_
  rintro e w1 ⟨rfl, k, rfl⟩
  go_wp2
  (try simp only [Exit.inBlock, Exit.then])
  refine bodyPost_ret (results_none rfl _ _ _) rfl ?_
  exact ⟨rfl, k, rfl⟩

/-- the unread bytes. -/
def unread (cur : List Value) (n off : Nat) : List Value := (cur.drop off).take (n - off)
theorem unread_len {w : World} {b g n cap off : Nat} {cur : List Value} (h : Buf w b g n cap off cur) : (unread cur n off).length = n - off := by
  have := h.len; have := h.on; have := h.nc
  simp [unread]; omega
theorem unread_at {w : World} {b g n cap off : Nat} {cur : List Value} (h : Buf w b g n cap off cur) : ∀ j v, (unread cur n off)[j]? = some v → w.cell? ⟨g, off + j, none⟩ = some v := by
  intro j v hv
  rw [cell_at h.hg]
  unfold unread at hv
  rw [List.getElem?_take] at hv
  split at hv
  · rw [List.getElem?_drop] at hv; exact hv
  · cases hv

theorem copy_pos {w : World} {b g n cap off : Nat} {cur : List Value} (h : Buf w b g n cap off cur) (G : Nat) :
    0 < (unread cur n off).length → (some ⟨G, 0, none⟩ : Option Addr) = some ⟨G, 0, none⟩ ∧ ∃ ad, (some ⟨g, bo cap off, none⟩ : Option Addr) = some ad ∧ ∀ j v, (unread cur n off)[j]? = some v → w.cell? (ad.add j) = some v := by
  intro hp
  have hl := unread_len h
  have := h.nc
  refine ⟨rfl, _, rfl, ?_⟩
  rw [bo_eq (by omega)]
  intro j v hj
  have e : (⟨g, off, none⟩ : Addr).add j = ⟨g, off + j, none⟩ := by unfold Addr.add; split <;> simp_all
  rw [e]; exact unread_at h j v hj
theorem unread_one {cur : List Value} {n off : Nat} (one : ∀ v ∈ cur, v.oneCell' = true) : ∀ v ∈ unread cur n off, v.oneCell' = true := by
  intro v hv; exact one v (List.mem_of_mem_drop (List.mem_of_mem_take hv))
theorem copy_n {w : World} {b g n cap off : Nat} {cur : List Value} (h : Buf w b g n cap off cur) : (unread cur n off).length = Nat.min (n - off) (n - off) := by
  rw [unread_len h]; exact (Nat.min_self _).symm
theorem copy_fit {w : World} {b g n cap off : Nat} {cur : List Value} (h : Buf w b g n cap off cur) (m : Nat) : 0 + (unread cur n off).length ≤ (List.replicate (n - off + m) (U8 0)).length := by
  rw [unread_len h, List.length_replicate]; omega
theorem kept_drewN {w w1 : World} {k : Nat} (h : w1 = w.drewN k) : w.grownBy w1 none ∧ w1.heap = w.heap := by
  subst h; exact ⟨⟨rfl, rfl, rfl, Nat.le_refl _, fun _ _ _ => rfl⟩, rfl⟩
theorem Buf.of_heap {w w1 : World} {b g n cap off : Nat} {cur : List Value} (h : Buf w b g n cap off cur) (e : w1.heap = w.heap) : Buf w1 b g n cap off cur :=
  ⟨by rw [e]; exact h.hb, by rw [e]; exact h.hg, h.len, h.on, h.nc, h.small⟩

theorem splice_rep (l : List Value) (k m : Nat) (h : l.length = k) : splice (List.replicate (k + m) (U8 0)) 0 l = l ++ List.replicate m (U8 0) := by
  subst h
  simp [splice]
theorem fin_buf {w : World} {b G g n cap off k m : Nat} {lr : Int} {l : List Value} (hb : w.heap[b]? = some (.cells #[.slice (some ⟨g, 0, none⟩) n cap, .int .i64 off, .int .i8 lr] 38 (0, 0)))
    (hG : w.heap[G]? = some (.cells (splice (List.replicate (k + m) (U8 0)) 0 l).toArray 5 (0, 0))) (hl : l.length = k) (hk : k ≤ 2097152) (hm : m ≤ 65536) :
    Buf (((w.setCell ⟨b, 0, none⟩ (.slice (some ⟨G, 0, none⟩) k (k + m))).setCell ⟨b, 1, none⟩ (.int .i64 0)).setCell ⟨b, 2, none⟩ (.int .i8 0)) b G k (k + m) 0 (l ++ List.replicate m (U8 0)) := by
  have hne : G ≠ b := by intro e; rw [e, hb] at hG; simp at hG
  have h1 := heap_setCell_same w b 0 _ 38 (.slice (some ⟨G, 0, none⟩) k (k + m)) hb
  have h2 := heap_setCell_same _ b 1 _ 38 (.int .i64 0) h1
  have h3 := heap_setCell_same _ b 2 _ 38 (.int .i8 0) h2
  refine ⟨⟨0, ?_⟩, ?_, by simp [hl], Nat.zero_le _, by omega, by omega⟩
  · rw [h3]; rfl
  · rw [heap_setCell_other _ ⟨b, 2, none⟩ G _ hne, heap_setCell_other _ ⟨b, 1, none⟩ G _ hne, heap_setCell_other _ ⟨b, 0, none⟩ G _ hne, hG, splice_rep l k m hl]
theorem fin_grown {w w1 w2 w3 w7 : World} {b : Nat} {x y z : Value} (g1 : w.grownBy w1 none) (g2 : w1.grownBy w2 none) (g3 : w2.grownBy w3 none) (L : Below w3.heap.size w3 w7) :
    w.grownBy (((w7.setCell ⟨b, 0, none⟩ x).setCell ⟨b, 1, none⟩ y).setCell ⟨b, 2, none⟩ z) (some b) := by
  refine grownBy_set (grownBy_set (grownBy_set ?_ 0 _) 1 _) 2 _
  have s1 := g1.size
  have s2 := g2.size
  have s3 := g3.size
  have s7 := L.size
  refine ⟨L.os.trans (g3.os.trans (g2.os.trans g1.os)), L.tape.trans (g3.tape.trans (g2.tape.trans g1.tape)), L.output.trans (g3.output.trans (g2.output.trans g1.output)), by omega, ?_⟩
  intro k hk _
  rw [L.block k (by omega), g3.block k (by omega) (by simp), g2.block k (by omega) (by simp), g1.block k hk (by simp)]

set_option maxHeartbeats 2000000 in
theorem room_grows {b g n cap off : Nat} {cur : List Value} {w : World} (m : Nat) (hm : ¬ (m : Int) ≤ (cap : Int) - n) (hm2 : m ≤ 65536) (hn : n ≤ 2097152) (one : ∀ v ∈ cur, v.oneCell' = true) (h : Buf w b g n cap off cur) :
    Calls Try.prog 16 #[.pointer (some ⟨b, 0, none⟩), .int .i64 m] w fun e w' => e = .returned (.tuple #[]) ∧ ∃ g2, w.heap.size ≤ g2 ∧
      Buf w' b g2 (n - off) (n - off + m) 0 (unread cur n off ++ List.replicate m (U8 0)) ∧ w.grownBy w' (some b) := by
  have ho := h.on
  have hc := h.nc
  have hs := h.small
  have hmk := mk_bytes ((n : Int) - off) ((n : Int) - off + m) (n - off) (n - off + m) (by omega) (by omega) (by omega) (by omega)
  go_enter Try.func16, Try.ntmps16
  go_wp2_with fail
  refine (avail_any h).mono ?_
  rintro e w1 ⟨rfl, k1, hw1⟩
  obtain ⟨g1, e1⟩ := kept_drewN hw1
  have B1 := h.of_heap e1
  clear hw1 e1
  go_wp2_with fail
  refine (len_any B1).mono ?_
  rintro e w2 ⟨rfl, k2, hw2⟩
  obtain ⟨g2, e2⟩ := kept_drewN hw2
  have B2 := B1.of_heap e2
  clear hw2 e2
  go_wp2_with fail
  refine (len_any B2).mono ?_
  rintro e w3 ⟨rfl, k3, hw3⟩
  obtain ⟨g3, e3⟩ := kept_drewN hw3
  have B3 := B2.of_heap e3
  clear hw3 e3 B1 B2
  go_wp2_with fail
  have hs3 : w.heap.size ≤ w3.heap.size := by have := g1.size; have := g2.size; have := g3.size; omega
  have hbs : b < w3.heap.size := by obtain ⟨lr, hb⟩ := B3.hb; exact (Array.getElem?_eq_some_iff.1 hb).1
  have hgs : g < w3.heap.size := (Array.getElem?_eq_some_iff.1 B3.hg).1
  obtain ⟨w4, hw4⟩ : ∃ w4, w4 = w3.alloc (.cells (Array.replicate (n - off + m) (U8 0)) 5) := ⟨_, rfl⟩
  have B4 : Buf w4 b g n cap off cur := by
    refine ⟨?_, ?_, B3.len, B3.on, B3.nc, B3.small⟩
    · obtain ⟨lr, hb⟩ := B3.hb; exact ⟨lr, by rw [hw4, Below.heap_alloc w3 _ _ hbs]; exact hb⟩
    · rw [hw4, Below.heap_alloc w3 _ _ hgs]; exact B3.hg
  have H4 : w4.heap[w3.heap.size]? = some (.cells (List.replicate (n - off + m) (U8 0)).toArray 5 (0, 0)) := by
    rw [hw4, heap_alloc_new]; simp
  have L4 : Below w3.heap.size w3 w4 := by rw [hw4]; exact (Below.refl _ _).alloc (Nat.le_refl _) _
  have S4 : w3.heap.size < w4.heap.size := by rw [hw4]; simp
  rw [← hw4]
  clear hw4
  refine (bytes_any B4).mono ?_
  rintro e w5 ⟨rfl, k5, hw5⟩
  obtain ⟨g5, e5⟩ := kept_drewN hw5
  have B5 := B4.of_heap e5
  have H5 : w5.heap[w3.heap.size]? = some (.cells (List.replicate (n - off + m) (U8 0)).toArray 5 (0, 0)) := by rw [e5]; exact H4
  have L5 : Below w3.heap.size w3 w5 := by rw [hw5]; exact ⟨L4.os, L4.tape, L4.output, L4.size, L4.block⟩
  have S5 : w3.heap.size < w5.heap.size := by rw [e5]; exact S4
  clear hw5 e5 H4 L4 S4 B4
  have HH : Hid _ := H5
  clear H5
  have HO : Hid _ := one
  clear one
  go_wp2_with (refine wpList_copy_splice rfl (.tmp 16) (.tmp 18) 22 22 rfl 5 Try.underlying22 size5 _ _ _ _ _ _ rfl rfl w3.heap.size 0 _ 5 HH.out (unread cur n off) (copy_n B5) (copy_pos B5 _) (copy_fit B5 m) (unread_one HO.out) w3.heap.size w3 L5 (Nat.le_refl _) ?_; intro w6 H6 L6)
  go_wp2_with fail
  refine (new_any .nilIface _ _ _ _).mono ?_
  rintro e w7 ⟨rfl, hw7⟩
  have S6 : w3.heap.size < w6.heap.size := (Array.getElem?_eq_some_iff.1 H6.out).1
  obtain ⟨lr, hb3⟩ := B3.hb
  have N7 : w7.heap[w6.heap.size]? = some (.cells #[.slice (some ⟨w3.heap.size, 0, none⟩) (n - off) (n - off + m), .int .i64 0, .int .i8 0] 38 (0, 0)) := by rw [hw7]; exact heap_alloc_new w6 _
  have b7 : w7.heap[b]? = some (.cells #[.slice (some ⟨g, 0, none⟩) n cap, .int .i64 off, .int .i8 lr] 38 (0, 0)) := by
    rw [hw7, Below.heap_alloc w6 _ _ (by omega), L6.block b hbs]; exact hb3
  have H7 : w7.heap[w3.heap.size]? = some (.cells (splice (List.replicate (n - off + m) (U8 0)) 0 (unread cur n off)).toArray 5 (0, 0)) := by
    rw [hw7, Below.heap_alloc w6 _ _ S6]; exact H6.out
  have L7 : Below w3.heap.size w3 w7 := by rw [hw7]; exact L6.alloc (by omega) _
  have n0 := cell_at (cs := [_, _, _]) N7 0
  have n1 := cell_at (cs := [_, _, _]) N7 1
  have n2 := cell_at (cs := [_, _, _]) N7 2
  have o0 := cell_at (cs := [_, _, _]) b7 0
  have o1 := cell_at (cs := [_, _, _]) b7 1
  have o2 := cell_at (cs := [_, _, _]) b7 2
  have f0 := free_at b7 0
  have f1 := free_at b7 1
  have f2 := free_at b7 2
  simp only [List.getElem?_cons_succ, List.getElem?_cons_zero] at n0 n1 n2 o0 o1 o2
  have HB7 : Hid _ := b7
  have HN7 : Hid _ := H7
  clear b7 H7 N7 hw7 hb3 H6 HH hmk
  go_wp2
  go_end0
  have hul := unread_len B5
  exact ⟨rfl, w3.heap.size, hs3, fin_buf HB7.out HN7.out hul (by omega) (by omega), fin_grown g1 g2 g3 L7⟩

theorem zz_stays {b g n cap off : Nat} {cur : List Value} {w : World} (m : Int) (hm : m ≤ (cap : Int) - n) (h : Buf w b g n cap off cur) :
    Calls Try.prog 7 #[.pointer (some ⟨b, 0, none⟩), .int .i64 m] w fun e w' => e = .returned (.tuple #[]) ∧ ∃ k, w' = w.drewN k := by
  go_enter Try.func7, Try.ntmps7
  go_wp2_with fail
  refine (room_stays m hm h).mono ?_
  rintro e w1 ⟨rfl, k, rfl⟩
  go_wp2
  go_end0
  exact ⟨rfl, k, rfl⟩
theorem zz_grows {b g n cap off : Nat} {cur : List Value} {w : World} (m : Nat) (hm : ¬ (m : Int) ≤ (cap : Int) - n) (hm2 : m ≤ 65536) (hn : n ≤ 2097152) (one : ∀ v ∈ cur, v.oneCell' = true) (h : Buf w b g n cap off cur) :
    Calls Try.prog 7 #[.pointer (some ⟨b, 0, none⟩), .int .i64 m] w fun e w' => e = .returned (.tuple #[]) ∧ ∃ g2, w.heap.size ≤ g2 ∧
      Buf w' b g2 (n - off) (n - off + m) 0 (unread cur n off ++ List.replicate m (U8 0)) ∧ w.grownBy w' (some b) := by
  have HO : Hid _ := one
  clear one
  go_enter Try.func7, Try.ntmps7
  go_wp2_with fail
  refine (room_grows m (by omega) hm2 hn HO.out h).mono ?_
  rintro e w1 ⟨rfl, hx⟩
  have HX : Hid _ := hx
  clear hx
  go_wp2
  go_end0
  exact ⟨rfl, HX.out⟩

set_option maxHeartbeats 1000000 in
/-- sameBytes at two slices that hold one list. -/
theorem same_any (a b : Option Addr) (ds : List Int) (ca cb : Nat) (w : World) (hn : ds.length ≤ 1048576) (ha : Dat w a ds) (hb : Dat w b ds) :
    Calls Try.prog 9 #[.slice a ds.length ca, .slice b ds.length cb] w fun e w' => e = .returned (.bool true) ∧ ∃ k, w' = w.drewN k := by
  go_enter Try.func9, Try.ntmps9
  go_wp2
  go_loopw [5] (fun i wr => ∃ k q : Nat, k ≤ ds.length ∧ i = .int .i64 k ∧ wr = w.drewN q) (fun i _ => ds.length - (intOf i).toNat)
  case atStart => exact ⟨0, 0, Nat.zero_le _, rfl, rfl⟩
  case round =>
    obtain ⟨k, q, hk, rfl, rfl⟩ := hrel
    by_cases hlt : k < ds.length
    · obtain ⟨ba, oa, rfl, _, hca⟩ := ha.at0 (by omega)
      obtain ⟨bb, ob, rfl, _, hcb⟩ := hb.at0 (by omega)
      have c1 := hca k hlt
      have c2 := hcb k hlt
      clear hca hcb ha hb
      unfold U8 at c1 c2
      have hki : (k : Int) < (ds.length : Int) := by omega
      go_wp2
      go_quiet (fail)
      go_wp2
      go_roundw
      case rel => exact ⟨k + 1, _, by omega, by go_num, rfl⟩
      case measure => simp [intOf]; omega
    · go_wp2
      go_ret
      exact ⟨rfl, q, rfl⟩
end Go.Proofs.Qxb6602228a
