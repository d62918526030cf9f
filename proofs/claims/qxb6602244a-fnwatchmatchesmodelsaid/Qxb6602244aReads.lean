/-
  ZZLookupB1 (19), ZZVarB1 (22), ZZBoundB1 (23), ZZWalkReadsB1 (24), zzReadsAreB1 (25).
-/
import Derived.Test.Qxb6602244aLookup2
namespace Go.Proofs.Qxb6602244a
open Go.ChangeShapes Go.WideShapes Go.ChangeAt Go.RowKit
set_option linter.unusedVariables false

set_option maxHeartbeats 1000000 in
theorem var_any {w : World} {s : Nat} {name : ByteArray} {lb : Nat} {bd : Bool} (h : VarAt w s name lb bd) :
    Calls Try.prog 22 #[.pointer (some ⟨s, 0, none⟩), .string name] w fun e w' => e = .returned (.pointer (some ⟨lb, 0, none⟩)) ∧ w' = w := by
  obtain ⟨vm, V, sl, h1, h2, h3, h4⟩ := h
  have l1 := look_map (keys_string (P := Try.prog) Try.underlying9) Try.underlying82 zero40 h2 name false
  simp only [Bool.false_eq_true, if_false, h3] at l1
  clear h2 h3 h4
  go_enter Try.func22, Try.ntmps22
  go_wp2
  go_ret
  exact ⟨rfl, rfl⟩

set_option maxHeartbeats 1000000 in
theorem zzbound_any {w : World} {s : Nat} {name : ByteArray} {lb : Nat} {bd : Bool} (h : VarAt w s name lb bd) :
    Calls Try.prog 23 #[.pointer (some ⟨lb, 0, none⟩)] w fun e w' => e = .returned (.bool bd) ∧ w' = w := by
  obtain ⟨vm, V, sl, h1, h2, h3, h4⟩ := h
  have b1 := cell_at (cs := [_, _, _]) h4 1
  simp only [List.getElem?_cons_succ, List.getElem?_cons_zero] at b1
  clear h1 h2 h3 h4
  go_enter Try.func23, Try.ntmps23
  go_wp2
  go_ret
  exact ⟨rfl, rfl⟩

theorem fst_ex (fs : List Fr) (name : ByteArray) : ∃ K, Fst fs name K := by
  induction fs with
  | nil => exact ⟨0, Nat.le_refl _, fun m h => by omega, fun h => by simp at h⟩
  | cons f t ih =>
    cases hf : has f.vn name with
    | true => exact ⟨0, Nat.zero_le _, fun m h => by omega, fun h => by simpa using hf⟩
    | false =>
      obtain ⟨K, h1, h2, h3⟩ := ih
      refine ⟨K + 1, by simp; omega, ?_, ?_⟩
      · intro m hm h
        cases m with
        | zero => simpa using hf
        | succ m => simp only [List.getElem_cons_succ]; exact h2 m (by omega) (by simp at h; omega)
      · intro h; simp only [List.getElem_cons_succ]; exact h3 (by simp at h; omega)

theorem zzlookup_any {B : Nat} {w : World} {fs : List Fr} {sb ab wm : Nat → Nat} {rb : Nat → Option Nat} {rs : Nat → List (ByteArray × Int)} (hC : Chain B w fs 0 sb ab wm rb rs) (name : ByteArray) (K : Nat) (hF : Fst fs name K)
    (hn : ∀ i, i < fs.length → (rs i).length ≤ 1048576) (hB : B ≤ w.heap.size) :
    Calls Try.prog 19 #[.pointer (pp sb fs.length 0), .string name] w fun e w' => LookPost B w fs sb ab wm rs name K e w' := by
  have key : Calls Try.prog 41 #[.pointer (pp sb fs.length 0), .string name] w fun e w' => LookPost B w fs sb ab wm rs name K e w' := by
    by_cases hK : K < fs.length
    · exact lookup_some hC name K hK hF hn hB
    · have := hF.le
      obtain rfl : K = fs.length := by omega
      exact lookup_none hC name hF hn hB
  go_enter Try.func19, Try.ntmps19
  go_wp2_with fail
  refine key.mono ?_
  intro e w' hP
  have hex : ∃ lv, e = .returned lv := by obtain ⟨lv, h, _⟩ := hP; exact ⟨lv, h⟩
  obtain ⟨lv, rfl⟩ := hex
  have HP : Hid _ := hP
  clear hP key
  go_wp2
  go_ret
  exact HP.out

/-! ### a row that is filled from the left -/
def fill (z : Value) (l : List Value) (k : Nat) : List Value := l.take k ++ List.replicate (l.length - k) z
theorem fill_len (z : Value) (l : List Value) (k : Nat) (h : k ≤ l.length) : (fill z l k).length = l.length := by simp [fill]; omega
theorem fill_zero (z : Value) (l : List Value) : fill z l 0 = List.replicate l.length z := by simp [fill]
theorem fill_full (z : Value) (l : List Value) (k : Nat) (h : l.length ≤ k) : fill z l k = l := by
  unfold fill; rw [List.take_of_length_le h, show l.length - k = 0 from by omega]; simp
theorem fill_at (z : Value) (l : List Value) (k : Nat) (h : k < l.length) : (fill z l k)[k]? = some z := by
  unfold fill
  rw [List.getElem?_append_right (by simp; omega), List.getElem?_replicate, if_pos (by simp; omega)]
theorem fill_set (z : Value) (l : List Value) (k : Nat) (h : k < l.length) : (fill z l k).set k l[k] = fill z l (k + 1) := by
  unfold fill
  rw [List.set_append_right _ _ (by simp; omega), List.take_succ_eq_append_getElem h, List.append_assoc]
  congr 1
  have e : l.length - k = (l.length - (k + 1)) + 1 := by omega
  rw [e, List.replicate_succ]
  have e2 : k - (l.take k).length = 0 := by simp; omega
  rw [e2]; rfl

theorem info9 : (Try.prog.info? 9).map (fun i => (i.zero, i.size, i.bytes)) = some (some (.string ⟨#[]⟩), 1, 16) := by kernel_rfl
theorem info3 : (Try.prog.info? 3).map (fun i => (i.zero, i.size, i.bytes)) = some (some (.int .i64 0), 1, 8) := by kernel_rfl
theorem mk_strs (n : Nat) (hn : n ≤ 4194304) (w : World) :
    (Instr.makeSlice 22 (.int .i64 n) (.int .i64 n)).run Try.prog w = .ok (.slice (some ⟨w.heap.size, 0, none⟩) n n) (w.alloc (.cells (List.replicate n (Value.string ⟨#[]⟩)).toArray 9)) := by
  obtain ⟨i0, hi, hz0, hz1, hz2⟩ := info_parts info9
  have h := run_make (P := Try.prog) w 22 9 i0 (.string ⟨#[]⟩) Try.underlying22 hi hz0 .i64 .i64 n n (by omega) (by omega) (by rw [hz2]; omega) (by omega)
  rw [h]
  simp only [Int.toNat_natCast, hz1, Nat.mul_one]
  have e : madeCells (Value.string ⟨#[]⟩).cells n = (List.replicate n (Value.string ⟨#[]⟩)).toArray := by
    apply Array.ext'
    rw [show (Value.string ⟨#[]⟩).cells = #[.string ⟨#[]⟩] from rfl, toList_madeCells_one]
  rw [e]
theorem mk_ints (n : Nat) (hn : n ≤ 4194304) (w : World) :
    (Instr.makeSlice 43 (.int .i64 n) (.int .i64 n)).run Try.prog w = .ok (.slice (some ⟨w.heap.size, 0, none⟩) n n) (w.alloc (.cells (List.replicate n (Value.int .i64 0)).toArray 3)) := by
  obtain ⟨i0, hi, hz0, hz1, hz2⟩ := info_parts info3
  have h := run_make (P := Try.prog) w 43 3 i0 (.int .i64 0) Try.underlying43 hi hz0 .i64 .i64 n n (by omega) (by omega) (by rw [hz2]; omega) (by omega)
  rw [h]
  simp only [Int.toNat_natCast, hz1, Nat.mul_one]
  have e : madeCells (Value.int .i64 0).cells n = (List.replicate n (Value.int .i64 0)).toArray := by
    apply Array.ext'
    rw [show (Value.int .i64 0).cells = #[.int .i64 0] from rfl, toList_madeCells_one]
  rw [e]

theorem rd_at (rs : List (ByteArray × Int)) : ∀ (k : Nat) (h : k < rs.length), (rs.flatMap rd)[k * 2]? = some (.string rs[k].1) ∧ (rs.flatMap rd)[k * 2 + 1]? = some (.int .i64 rs[k].2) := by
  induction rs with
  | nil => intro k h; simp at h
  | cons r t ih =>
    intro k h
    cases k with
    | zero => exact ⟨rfl, rfl⟩
    | succ k =>
      have := ih k (by simp at h; omega)
      simp only [List.flatMap_cons, List.getElem_cons_succ]
      rw [show (k + 1) * 2 = k * 2 + 2 from by omega]
      exact this

/-- while the reads are copied out. -/
structure Cp (w wr : World) (rs : List (ByteArray × Int)) (k : Nat) : Prop where
  bel : Below w.heap.size w wr
  n1 : wr.heap[w.heap.size]? = some (.cells (fill (.string ⟨#[]⟩) (rs.map (fun r => Value.string r.1)) k).toArray 9 (0, 0))
  n2 : wr.heap[w.heap.size + 1]? = some (.cells (fill (.int .i64 0) (rs.map (fun r => Value.int .i64 r.2)) k).toArray 3 (0, 0))

theorem cp_start (w : World) (rs : List (ByteArray × Int)) : Cp w ((w.alloc (.cells (List.replicate rs.length (Value.string ⟨#[]⟩)).toArray 9)).alloc (.cells (List.replicate rs.length (Value.int .i64 0)).toArray 3)) rs 0 where
  bel := ((Below.refl _ _).alloc (Nat.le_refl _) _).alloc (by simp) _
  n1 := by rw [Below.heap_alloc _ _ _ (by simp), heap_alloc_new, fill_zero]; simp
  n2 := by rw [heap_alloc_at _ _ _ (by simp), fill_zero]; simp
theorem cp_step {w wr : World} {rs : List (ByteArray × Int)} {k : Nat} (R : Cp w wr rs k) (hk : k < rs.length) (o : Obj) :
    Cp w (((wr.setCell ⟨w.heap.size, k, none⟩ (.string rs[k].1)).setCell ⟨w.heap.size + 1, k, none⟩ (.int .i64 rs[k].2)).alloc o) rs (k + 1) := by
  have s2 : w.heap.size + 1 < wr.heap.size := (Array.getElem?_eq_some_iff.1 R.n2).1
  have s3 : w.heap.size + 1 < ((wr.setCell ⟨w.heap.size, k, none⟩ (.string rs[k].1)).setCell ⟨w.heap.size + 1, k, none⟩ (.int .i64 rs[k].2)).heap.size := by rw [World.size_setCell, World.size_setCell]; exact s2
  refine ⟨((R.bel.setCell (Nat.le_refl _) _).setCell (by show _ ≤ w.heap.size + 1; omega) _).alloc (by omega) _, ?_, ?_⟩
  · rw [Below.heap_alloc _ _ _ (by omega), heap_setCell_other _ ⟨w.heap.size + 1, k, none⟩ w.heap.size _ (by show w.heap.size ≠ w.heap.size + 1; omega), heap_setCell_same _ w.heap.size k _ 9 _ R.n1]
    rw [← fill_set _ _ k (by simpa using hk)]
    simp
  · have h2' : (wr.setCell ⟨w.heap.size, k, none⟩ (.string rs[k].1)).heap[w.heap.size + 1]? = _ := (heap_setCell_other _ ⟨w.heap.size, k, none⟩ (w.heap.size + 1) _ (by show w.heap.size + 1 ≠ w.heap.size; omega)).trans R.n2
    rw [Below.heap_alloc _ _ _ s3, heap_setCell_same _ (w.heap.size + 1) k _ 3 _ h2']
    rw [← fill_set _ _ k (by simpa using hk)]
    simp
end Go.Proofs.Qxb6602244a
