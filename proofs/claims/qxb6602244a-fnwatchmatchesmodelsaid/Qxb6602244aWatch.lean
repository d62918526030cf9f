/-
  (*scope).watch (42), ZZWatchB1 (30), ZZReadsNilB1 (31).
-/
import Derived.Test.Qxb6602244aFill
import Derived.Test.Qxb6602244aReads
namespace Go.Proofs.Qxb6602244a
open Go.ChangeShapes Go.WideShapes Go.ChangeAt Go.RowKit
open ChangeMaps (setBlock)
set_option linter.unusedVariables false
set_option linter.unusedSimpArgs false

/-- of the rows only ab's may have turned. -/
def KeepsA (ab : Nat) (w w' : World) : Prop := ∀ (k : Nat) (cs : Array Value) (t : TypeId) (fz : Nat × Nat), k ≠ ab → w.heap[k]? = some (.cells cs t fz) → w'.heap[k]? = some (.cells cs t fz)

/-- while the reads are watched. -/
structure Wt (w0 w wr : World) (wm ab ob : Nat) (M : Wms) : Prop where
  ex : ∃ f, Wat wr w0.heap.size wm ab ob f M
  bel : Below w0.heap.size w0 wr
  keep : KeepsC w wr
  size : w.heap.size ≤ wr.heap.size

/-- WHAT watch LEAVES. -/
def WPost (w0 w : World) (wm ab ob nn : Nat) (M : Wms) (e : Ending) (w' : World) : Prop :=
  e = .returned (.tuple #[]) ∧ (∃ f, Wat w' w0.heap.size wm ab ob f M) ∧ Below w0.heap.size w0 w' ∧ KeepsA ab w w' ∧ w.heap.size ≤ w'.heap.size ∧
    ∃ na nc un nx ch, w'.heap[ab]? = some (.cells #[.slice na nn nc, un, .slice none 0 0, nx, ch] 71 (0, 0))

theorem wpost_of {w0 w wr : World} {wm ab ob nn : Nat} {M : Wms} {na : Option Addr} {nc : Nat} {un v nx ch : Value} (R : Wt w0 w wr wm ab ob M) (hb : w.heap[ab]? = some (.cells #[.slice na nn nc, un, v, nx, ch] 71 (0, 0))) (hab : w0.heap.size ≤ ab) :
    WPost w0 w wm ab ob nn M (.returned (.tuple #[])) (wr.setCell ⟨ab, 2, none⟩ (.slice none 0 0)) := by
  have hb1 := R.keep _ _ _ _ hb
  obtain ⟨f, hW⟩ := R.ex
  refine ⟨rfl, ⟨f, hW.keep ?_⟩, R.bel.setCell hab _, ?_, by rw [World.size_setCell]; exact R.size, na, nc, un, nx, ch, ?_⟩
  · intro k o hk hs
    rw [heap_setCell_other wr ⟨ab, 2, none⟩ k _ (by intro e; change k = ab at e; rw [e, hb1] at hk; injection hk with hk; subst hk; simp [stat] at hs)]
    exact hk
  · intro k cs t fz hne hk
    rw [heap_setCell_other wr ⟨ab, 2, none⟩ k _ hne]
    exact R.keep _ _ _ _ hk
  · rw [heap_setCell_same wr ab 2 _ 71 _ hb1]; rfl

theorem takeWhile_take {α : Type} (p : α → Bool) : ∀ (l : List α) (k : Nat), k ≤ l.length → (∀ j, (hj : j < l.length) → j < k → p l[j] = true) → ((h : k < l.length) → p l[k] = false) → l.takeWhile p = l.take k := by
  intro l
  induction l with
  | nil => intro k hk _ _; simp
  | cons a t ih =>
    intro k hk hall hend
    cases k with
    | zero =>
      have := hend (by simp)
      simp only [List.getElem_cons_zero] at this
      simp [this]
    | succ k =>
      have h0 := hall 0 (by simp) (by omega)
      simp only [List.getElem_cons_zero] at h0
      simp only [List.takeWhile_cons, h0, List.take_succ_cons, if_true]
      rw [ih k (by simp at hk; omega) (fun j hj hjk => by have := hall (j + 1) (by simp; omega) (by omega); simpa using this) (fun h => by have := hend (by simp; omega); simpa using this)]
theorem front_take {nn : Nat} (h2 : ¬ nn < 2) (rs : List (ByteArray × Int)) (k : Nat) (hk : k ≤ rs.length) (hall : ∀ j, (hj : j < rs.length) → j < k → rs[j].2 < (nn : Int)) (hend : (h : k < rs.length) → ¬ rs[k].2 < (nn : Int)) : front nn rs = rs.take k := by
  unfold front
  rw [if_neg h2]
  exact takeWhile_take _ rs k hk (fun j hj hjk => by simpa using hall j hj hjk) (fun h => by simpa using hend h)
theorem cell_kept {w wr : World} {g : Nat} {cur : Array Value} {t : TypeId} (hg : w.heap[g]? = some (.cells cur t (0, 0))) (k : KeepsC w wr) (j : Nat) : wr.cell? ⟨g, j, none⟩ = w.cell? ⟨g, j, none⟩ := by
  rw [cell_of_row w g j cur t (0, 0) hg, cell_of_row wr g j cur t (0, 0) (k _ _ _ _ hg)]

theorem bel_drewN {B : Nat} {w w' : World} (h : Below B w w') (k : Nat) : Below B w (w'.drewN k) := ⟨h.os, h.tape, h.output, h.size, h.block⟩
theorem bel_drew {B : Nat} {w w' : World} (h : Below B w w') : Below B w w'.drew := ⟨h.os, h.tape, h.output, h.size, h.block⟩
theorem Wt.on {w0 w wr w1 : World} {wm ab ob : Nat} {M : Wms} (R : Wt w0 w wr wm ab ob M) (h : Below wr.heap.size wr w1) : Wt w0 w w1 wm ab ob M := by
  obtain ⟨f, hW⟩ := R.ex
  exact ⟨⟨f, hW.keep (Keeps.below h)⟩, R.bel.trans (h.mono R.bel.size), R.keep.trans (KeepsC.below h), Nat.le_trans R.size h.size⟩
theorem ptr29 : Try.prog.underlying 29 = some (.pointer 71) := Try.underlying29
theorem size71 : (Try.prog.info? 71).map (fun i => i.size) = some 5 := by kernel_rfl
theorem neq29_same (w : World) (a : Addr) : (binOp .neq 29 (.pointer (some a)) (.pointer (some a))).run Try.prog w = .ok (.bool false) w := by
  obtain ⟨j, hj, _⟩ := Option.map_eq_some_iff.1 size71
  exact run_neq_ptr_same w a ptr29 hj
theorem eql29_same (w : World) (a : Addr) : (binOp .eql 29 (.pointer (some a)) (.pointer (some a))).run Try.prog w = .ok (.bool true) w := by
  obtain ⟨j, hj, _⟩ := Option.map_eq_some_iff.1 size71
  exact run_eql_ptr_same w a ptr29 hj
theorem neq29_other {w : World} {a b : Nat} {ca cb : Array Value} (hne : a ≠ b) (ha : w.heap[a]? = some (.cells ca 71 (0, 0))) (hb : w.heap[b]? = some (.cells cb 71 (0, 0))) : (binOp .neq 29 (.pointer (some ⟨a, 0, none⟩)) (.pointer (some ⟨b, 0, none⟩))).run Try.prog w = .ok (.bool true) w := by
  obtain ⟨j, hj, hs⟩ := Option.map_eq_some_iff.1 size71
  exact run_neq_ptr_other w ptr29 hj (by omega) (by simp [hne]) ha hb
theorem eql29_other {w : World} {a b : Nat} {ca cb : Array Value} (hne : a ≠ b) (ha : w.heap[a]? = some (.cells ca 71 (0, 0))) (hb : w.heap[b]? = some (.cells cb 71 (0, 0))) : (binOp .eql 29 (.pointer (some ⟨a, 0, none⟩)) (.pointer (some ⟨b, 0, none⟩))).run Try.prog w = .ok (.bool false) w := by
  obtain ⟨j, hj, hs⟩ := Option.map_eq_some_iff.1 size71
  exact run_eql_ptr_other w ptr29 hj (by omega) (by simp [hne]) ha hb
theorem take_fold (i : Int) (M : Wms) (rs : List (ByteArray × Int)) (k : Nat) (h : k < rs.length) : (rs.take (k + 1)).foldl (wstep i) M = wstep i ((rs.take k).foldl (wstep i) M) rs[k] := by
  rw [List.take_succ_eq_append_getElem h, List.foldl_append]; rfl
theorem wstep_no {i : Int} {M : Wms} {r : ByteArray × Int} {m : Inn} (h : get M r.1 = some m) (hm : get m i = none ∨ ∃ z, get m i = some (false, z)) : wstep i M r = upd M r.1 (upd m i (true, r.2)) := by
  unfold wstep
  have e : isMine (look M r.1 i) = false := by
    unfold look; rw [h]
    rcases hm with hm | ⟨z, hm⟩ <;> simp [hm, isMine]
  rw [e]; simp [put, h]
theorem wstep_new {i : Int} {M : Wms} {r : ByteArray × Int} (h : get M r.1 = none) : wstep i M r = upd M r.1 (upd [] i (true, r.2)) := by
  unfold wstep
  have e : isMine (look M r.1 i) = false := by unfold look; rw [h]; rfl
  rw [e]; simp [put, h]
theorem wstep_yes {i : Int} {M : Wms} {r : ByteArray × Int} {m : Inn} {z : Int} (h : get M r.1 = some m) (hm : get m i = some (true, z)) : wstep i M r = M := by
  unfold wstep look; rw [h]; simp [hm, isMine]

set_option maxHeartbeats 4000000 in
set_option maxRecDepth 100000 in
theorem watch_any (w0 : World) (sb wm ab ob B nn : Nat) (i : Int) (cs : List Value) (f : ByteArray → Nat) (M : Wms) (rs : List (ByteArray × Int)) (rb : Option Nat) (co : Array Value) (w : World)
    (hs : w.heap[sb]? = some (.cells cs.toArray 87 (0, 0))) (h5 : cs[5]? = some (.map (some wm))) (hW : Wat w w0.heap.size wm ab ob f M) (hL : Below w0.heap.size w0 w) (hwm : w0.heap.size ≤ wm) (hab : w0.heap.size ≤ ab)
    (hA : Att w B ab nn rs rb) (hn : rs.length ≤ 1048576) (hnn : nn ≤ 1048576) (hob : w.heap[ob]? = some (.cells co 71 (0, 0))) (hne : ab ≠ ob) :
    Calls Try.prog 42 #[.pointer (some ⟨sb, 0, none⟩), .int .i64 i, .pointer (some ⟨ab, 0, none⟩)] w fun e w' => WPost w0 w wm ab ob nn (watchM nn i rs M) e w' := by
  obtain ⟨na, nc, un, v, nx, ch, hb, hown, hrb⟩ := hA.ex
  have habs : ab < w.heap.size := (Array.getElem?_eq_some_iff.1 hb).1
  have hsb : sb < w.heap.size := (Array.getElem?_eq_some_iff.1 hs).1
  have c0 := cell_at (cs := [_, _, _, _, _]) hb 0
  have c2 := cell_at (cs := [_, _, _, _, _]) hb 2
  have f2 := free_at hb 2
  simp only [List.getElem?_cons_succ, List.getElem?_cons_zero] at c0 c2
  obtain ⟨va, vc, hv, hcl⟩ : ∃ va vc, v = .slice va rs.length vc ∧ (0 < rs.length → ∃ g cur, va = some ⟨g, 0, none⟩ ∧ w.heap[g]? = some (.cells cur 93 (0, 0)) ∧ ∀ j u, (rs.flatMap rd)[j]? = some u → w.cell? ⟨g, j, none⟩ = some u) := by
    rcases hown.2 with ⟨hv, h0⟩ | ⟨g, cap, cur, hv, hbg, hg, r⟩
    · exact ⟨none, 0, by rw [hv, h0], fun hp => by omega⟩
    · refine ⟨_, cap, hv, fun _ => ⟨g, cur, rfl, hg, ?_⟩⟩
      intro j u hj
      have := hown.cells (g := g) (by rw [hv]; rfl) j u hj
      have e : (⟨g, 0, none⟩ : Addr).add j = ⟨g, j, none⟩ := by unfold Addr.add; split <;> simp_all
      rw [e] at this; exact this
  subst hv
  have HC : Hid _ := hcl
  have HB : Hid _ := hb
  have HS : Hid _ := hs
  have H5 : Hid _ := h5
  have HW : Hid (Wt w0 w w wm ab ob M) := ⟨⟨f, hW⟩, hL, KeepsC.refl _, Nat.le_refl _⟩
  clear hb hown hrb hA hcl hs h5 hW
  by_cases hsm : nn < 2
  · have e : watchM nn i rs M = M := by simp [watchM, front, hsm]
    have HP : Hid (WPost w0 w wm ab ob nn M (.returned (.tuple #[])) (w.setCell ⟨ab, 2, none⟩ (.slice none 0 0))) := wpost_of HW.out HB.out hab
    rw [e]
    clear e
    go_enter Try.func42, Try.ntmps42
    go_wp2
    go_end0
    exact HP.out
  · have q94 := eql94
    have hmm := @run_makeMap Try.prog
    go_enter Try.func42, Try.ntmps42
    go_wp2
    go_loopw [25] (fun j wr => ∃ k : Nat, k ≤ rs.length ∧ j = .int .i64 k ∧ (∀ j, (hj : j < rs.length) → j < k → rs[j].2 < (nn : Int)) ∧ Wt w0 w wr wm ab ob ((rs.take k).foldl (wstep i) M)) (fun j _ => rs.length - (intOf j).toNat)
    case atStart => exact ⟨0, Nat.zero_le _, rfl, fun j hj h => by omega, HW.out⟩
    case round =>
      obtain ⟨k, hk, rfl, hall, R⟩ := hrel
      have HA : Hid _ := hall
      clear HW hall c0 c2 f2
      by_cases hlt : k < rs.length
      · obtain ⟨g, cur, rfl, hg, hc⟩ := HC.out (by omega)
        obtain ⟨r1, r2⟩ := rd_at rs k hlt
        have d1 := (cell_kept hg R.keep (k * 2)).trans (hc _ _ r1)
        have d2 := (cell_kept hg R.keep (k * 2 + 1)).trans (hc _ _ r2)
        have hgs : g < w.heap.size := (Array.getElem?_eq_some_iff.1 hg).1
        have hsz := R.size
        have hki : (k : Int) < (rs.length : Int) := by omega
        have es5 := (cell_at (R.keep _ _ _ _ HS.out) 5).trans H5.out
        have hbr := R.keep _ _ _ _ HB.out
        have c0 := cell_at (cs := [_, _, _, _, _]) hbr 0
        have c2 := cell_at (cs := [_, _, _, _, _]) hbr 2
        have f2 := free_at hbr 2
        simp only [List.getElem?_cons_succ, List.getElem?_cons_zero] at c0 c2
        have habr : ab < wr.heap.size := by omega
        have hsbr : sb < wr.heap.size := by omega
        have hgr : g < wr.heap.size := by omega
        clear hc r1 r2 hbr
        by_cases hat : rs[k].2 < (nn : Int)
        · go_wp2_with fail
          go_quiet (fail)
          go_wp2_with fail
          have hq1 : (wr.alloc (Obj.cells #[Value.string rs[k].fst, Value.int IntKind.i64 rs[k].snd] 93)).heap[wr.heap.size]? = some (.cells #[.string rs[k].1, .int .i64 rs[k].2] 93 (0, 0)) := heap_alloc_new wr _
          have hb1 : Below wr.heap.size wr ((wr.alloc (Obj.cells #[Value.string rs[k].fst, Value.int IntKind.i64 rs[k].snd] 93)).drewN nq) := bel_drewN ((Below.refl _ _).alloc (Nat.le_refl _) _) nq
          have hq1 : ((wr.alloc (Obj.cells #[Value.string rs[k].fst, Value.int IntKind.i64 rs[k].snd] 93)).drewN nq).heap[wr.heap.size]? = some (.cells #[.string rs[k].1, .int .i64 rs[k].2] 93 (0, 0)) := hq1
          generalize (wr.alloc (Obj.cells #[Value.string rs[k].fst, Value.int IntKind.i64 rs[k].snd] 93)).drewN nq = w1 at hb1 hq1 ⊢
          have R1 := R.on hb1
          have s5 := (cell_at (R1.keep _ _ _ _ HS.out) 5).trans H5.out
          have q0 := cell_at (cs := [_, _]) hq1 0
          simp only [List.getElem?_cons_zero] at q0
          have qs := (Array.getElem?_eq_some_iff.1 hq1).1
          have hsb1 : sb < w1.heap.size := by omega
          obtain ⟨f', hW⟩ := R1.ex
          have HQ : Hid _ := hq1
          have HA2 : Hid (∀ j, (hj : j < rs.length) → j < k + 1 → rs[j].2 < (nn : Int)) := by
            intro j hj hjk
            by_cases e : j = k
            · subst e; exact hat
            · exact HA.out j hj (by omega)
          clear es5 d1 d2 c0 c2 f2 R hb1 hq1
          generalize wr.heap.size = q at HQ q0 qs habr hsbr hgr hsz ⊢
          cases hgm : get ((rs.take k).foldl (wstep i) M) rs[k].1 with
          | none =>
            have l1 := (hW.keep (Keeps.below (bel_drew (Below.refl w1.heap.size w1)))).look_none hgm
            obtain ⟨w2, f2, hup, hf2, hW2, bel2, keep2, sz2⟩ := wat_new hW R1.bel hwm hgm ((w1.alloc (.map #[] 0)).drew).drew (bel_drew (bel_drew ((Below.refl _ _).alloc (Nat.le_refl _) _))) (heap_alloc_new w1 _)
            have hg2 : get (upd ((rs.take k).foldl (wstep i) M) rs[k].1 []) rs[k].1 = some [] := by rw [get_upd]; simp
            have l2 := hW2.in_none hg2 (i := i) rfl
            rw [hf2] at l2
            have hq2 := keep2 _ _ _ _ HQ.out
            have q2 := cell_at (cs := [_, _]) hq2 1
            simp only [List.getElem?_cons_zero, List.getElem?_cons_succ] at q2
            have qs2 : q < w2.heap.size := by omega
            obtain ⟨w3, hlay, hW3, bel3, keep3, sz3⟩ := wat_lay hW2 bel2 hg2 i true rs[k].2 ab rfl w1.heap.size hf2 (w2.alloc (.cells #[.pointer none, .int .i64 0] 96)) ((Below.refl _ _).alloc (Nat.le_refl _) _)
            have HR : Hid (Wt w0 w w3 wm ab ob ((rs.take (k + 1)).foldl (wstep i) M)) := by
              refine ⟨⟨f2, ?_⟩, bel3, R1.keep.trans (keep2.trans keep3), by omega⟩
              rw [take_fold i M rs k hlt, wstep_new hgm]
              rw [upd_upd] at hW3; exact hW3
            clear hW2 hW3 keep2 keep3 hW R1 hq2
            go_wp2_with fail
            go_region
            all_goals
              go_wp2_with fail
              go_region
              all_goals
                go_wp2
                go_roundw
                case rel => exact ⟨k + 1, by omega, by go_num, HA2.out, HR.out⟩
                case measure => simp [intOf]; omega
          | some m =>
            have hWd := hW.keep (Keeps.below (bel_drew (Below.refl w1.heap.size w1)))
            have l1 := hWd.look_some hgm
            have q2 := cell_at (cs := [_, _]) HQ.out 1
            simp only [List.getElem?_cons_zero, List.getElem?_cons_succ] at q2
            have hfl : f' rs[k].1 < w1.heap.size := (hW.inn _ _ hgm).1.lt
            have HAB : Hid _ := R1.keep _ _ _ _ HB.out
            have HOB : Hid _ := R1.keep _ _ _ _ hob
            cases hgi : get m i with
            | none =>
              have l2 := hWd.in_none hgm (i := i) hgi
              obtain ⟨w3, hlay, hW3, bel3, keep3, sz3⟩ := wat_lay hW R1.bel hgm i true rs[k].2 ab rfl (f' rs[k].1) rfl (w1.alloc (.cells #[.pointer none, .int .i64 0] 96)).drew (bel_ad w1 _)
              have HR : Hid (Wt w0 w w3 wm ab ob ((rs.take (k + 1)).foldl (wstep i) M)) := by
                refine ⟨⟨f', ?_⟩, bel3, R1.keep.trans keep3, by omega⟩
                rw [take_fold i M rs k hlt, wstep_no hgm (.inl hgi)]
                exact hW3
              clear hW3 keep3 hW R1 hWd
              go_wp2_with fail
              go_region
              all_goals
                go_wp2
                go_roundw
                case rel => exact ⟨k + 1, by omega, by go_num, HA2.out, HR.out⟩
                case measure => simp [intOf]; omega
            | some v =>
              obtain ⟨mi, z'⟩ := v
              cases mi with
              | true =>
                have l2 : _ = Result.ok (Value.tuple #[.agg #[.pointer (some ⟨ab, 0, none⟩), .int .i64 z'], .bool true]) _ := hWd.in_some hgm (i := i) hgi
                have hnq := neq29_same
                have HR : Hid (∀ o, Wt w0 w (w1.alloc o).drew wm ab ob ((rs.take (k + 1)).foldl (wstep i) M)) := by
                  intro o
                  rw [take_fold i M rs k hlt, wstep_yes hgm hgi]
                  exact R1.on (bel_ad w1 o)
                clear hW R1 hWd
                go_wp2_with fail
                go_region
                all_goals
                  go_wp2
                  go_roundw
                  case rel => exact ⟨k + 1, by omega, by go_num, HA2.out, HR.out _⟩
                  case measure => simp [intOf]; omega
              | false =>
                have l2 : _ = Result.ok (Value.tuple #[.agg #[.pointer (some ⟨ob, 0, none⟩), .int .i64 z'], .bool true]) _ := hWd.in_some hgm (i := i) hgi
                have hnq := neq29_other (w := (w1.alloc (.cells #[.pointer (some ⟨ob, 0, none⟩), .int .i64 z'] 96)).drew) (Ne.symm hne) (KeepsC.below (bel_ad w1 _) _ _ _ _ HOB.out) (KeepsC.below (bel_ad w1 _) _ _ _ _ HAB.out)
                obtain ⟨w3, hlay, hW3, bel3, keep3, sz3⟩ := wat_lay hW R1.bel hgm i true rs[k].2 ab rfl (f' rs[k].1) rfl (w1.alloc (.cells #[.pointer (some ⟨ob, 0, none⟩), .int .i64 z'] 96)).drew (bel_ad w1 _)
                have HR : Hid (Wt w0 w w3 wm ab ob ((rs.take (k + 1)).foldl (wstep i) M)) := by
                  refine ⟨⟨f', ?_⟩, bel3, R1.keep.trans keep3, by omega⟩
                  rw [take_fold i M rs k hlt, wstep_no hgm (.inr ⟨z', hgi⟩)]
                  exact hW3
                clear hW3 keep3 hW R1 hWd
                go_wp2_with fail
                go_region
                all_goals
                  go_wp2
                  go_roundw
                  case rel => exact ⟨k + 1, by omega, by go_num, HA2.out, HR.out⟩
                  case measure => simp [intOf]; omega
        · go_wp2_with fail
          go_quiet (fail)
          go_wp2_with fail
          have hb1 : Below wr.heap.size wr ((wr.alloc (Obj.cells #[Value.string rs[k].fst, Value.int IntKind.i64 rs[k].snd] 93)).drewN nq) := bel_drewN ((Below.refl _ _).alloc (Nat.le_refl _) _) nq
          generalize (wr.alloc (Obj.cells #[Value.string rs[k].fst, Value.int IntKind.i64 rs[k].snd] 93)).drewN nq = w1 at hb1 ⊢
          have R1 := R.on hb1
          have hbr1 := R1.keep _ _ _ _ HB.out
          have c2' := cell_at (cs := [_, _, _, _, _]) hbr1 2
          have f2' := free_at hbr1 2
          simp only [List.getElem?_cons_succ, List.getElem?_cons_zero] at c2'
          have HP : Hid (WPost w0 w wm ab ob nn (watchM nn i rs M) (.returned (.tuple #[])) (w1.setCell ⟨ab, 2, none⟩ (.slice none 0 0))) := by
            have := wpost_of R1 HB.out hab
            unfold watchM
            rw [front_take hsm rs k hk HA.out (fun _ => by omega)]
            exact this
          clear hbr1 R1
          go_wp2
          go_end0
          exact HP.out
      · have hbr := R.keep _ _ _ _ HB.out
        have c2 := cell_at (cs := [_, _, _, _, _]) hbr 2
        have f2 := free_at hbr 2
        simp only [List.getElem?_cons_succ, List.getElem?_cons_zero] at c2
        have HP : Hid (WPost w0 w wm ab ob nn (watchM nn i rs M) (.returned (.tuple #[])) (wr.setCell ⟨ab, 2, none⟩ (.slice none 0 0))) := by
          have := wpost_of R HB.out hab
          unfold watchM
          rw [front_take hsm rs k hk HA.out (fun h => absurd h hlt)]
          exact this
        clear hbr
        go_wp2
        go_end0
        exact HP.out

theorem zzwatch_any (w0 : World) (sb wm ab ob B nn : Nat) (i : Int) (cs : List Value) (f : ByteArray → Nat) (M : Wms) (rs : List (ByteArray × Int)) (rb : Option Nat) (co : Array Value) (w : World)
    (hs : w.heap[sb]? = some (.cells cs.toArray 87 (0, 0))) (h5 : cs[5]? = some (.map (some wm))) (hW : Wat w w0.heap.size wm ab ob f M) (hL : Below w0.heap.size w0 w) (hwm : w0.heap.size ≤ wm) (hab : w0.heap.size ≤ ab)
    (hA : Att w B ab nn rs rb) (hn : rs.length ≤ 1048576) (hnn : nn ≤ 1048576) (hob : w.heap[ob]? = some (.cells co 71 (0, 0))) (hne : ab ≠ ob) :
    Calls Try.prog 30 #[.pointer (some ⟨sb, 0, none⟩), .int .i64 i, .pointer (some ⟨ab, 0, none⟩)] w fun e w' => WPost w0 w wm ab ob nn (watchM nn i rs M) e w' := by
  have key := watch_any w0 sb wm ab ob B nn i cs f M rs rb co w hs h5 hW hL hwm hab hA hn hnn hob hne
  clear hs h5 hW hA hob
  go_enter Try.func30, Try.ntmps30
  go_wp2_with fail
  refine key.mono ?_
  intro e w' hP
  obtain rfl : e = .returned (.tuple #[]) := hP.1
  have HP : Hid (WPost w0 w wm ab ob nn (watchM nn i rs M) (.returned (.tuple #[])) w') := hP
  clear hP key
  go_wp2
  go_end0
  exact HP.out

set_option maxHeartbeats 1000000 in
theorem readsNil_any (ab nn : Nat) (na : Option Addr) (nc : Nat) (un nx ch : Value) (w : World) (hb : w.heap[ab]? = some (.cells #[.slice na nn nc, un, .slice none 0 0, nx, ch] 71 (0, 0))) :
    Calls Try.prog 31 #[.pointer (some ⟨ab, 0, none⟩)] w fun e w' => e = .returned (.bool true) ∧ w' = w := by
  have c2 := cell_at (cs := [_, _, _, _, _]) hb 2
  simp only [List.getElem?_cons_succ, List.getElem?_cons_zero] at c2
  have q69 := eql69
  clear hb
  go_enter Try.func31, Try.ntmps31
  go_wp2
  go_ret
  exact ⟨rfl, rfl⟩
end Go.Proofs.Qxb6602244a
