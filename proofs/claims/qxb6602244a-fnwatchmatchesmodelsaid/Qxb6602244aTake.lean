/-
  zzWatchSnapB1 (35).
-/
import Derived.Test.Qxb6602244aNames
import Derived.Deep.RegionWith
namespace Go.Proofs.Qxb6602244a
open Go.ChangeShapes Go.WideShapes Go.ChangeAt Go.RowKit
set_option linter.unusedVariables false
set_option linter.unusedSimpArgs false

theorem results_tmp5 {fn : Func} {t u v x y : Tmp} (h : fn.results = #[.tmp t, .tmp u, .tmp v, .tmp x, .tmp y]) (tmps : Array Value) (P : Program) (w : World) :
    (results fn tmps).run P w = .ok (.tuple #[tmps.getD t undef, tmps.getD u undef, tmps.getD v undef, tmps.getD x undef, tmps.getD y undef]) w := by
  simp [results, h]

theorem info4 : (Try.prog.info? 4).map (fun i => (i.zero, i.size, i.bytes)) = some (some (.bool false), 1, 1) := by kernel_rfl
theorem mk_bools (n : Nat) (hn : n ≤ 4194304) (w : World) :
    (Instr.makeSlice 24 (.int .i64 n) (.int .i64 n)).run Try.prog w = .ok (.slice (some ⟨w.heap.size, 0, none⟩) n n) (w.alloc (.cells (List.replicate n (Value.bool false)).toArray 4)) := by
  obtain ⟨i0, hi, hz0, hz1, hz2⟩ := info_parts info4
  have h := run_make (P := Try.prog) w 24 4 i0 (.bool false) Try.underlying24 hi hz0 .i64 .i64 n n (by omega) (by omega) (by rw [hz2]; omega) (by omega)
  rw [h]
  simp only [Int.toNat_natCast, hz1, Nat.mul_one]
  have e : madeCells (Value.bool false).cells n = (List.replicate n (Value.bool false)).toArray := by
    apply Array.ext'
    rw [show (Value.bool false).cells = #[.bool false] from rfl, toList_madeCells_one]
  rw [e]

/-- while the watchers are read out: N = w1.heap.size: three rows. -/
structure Sp (w1 wr : World) (rs : List (Option (Bool × Int))) (k : Nat) : Prop where
  bel : Below w1.heap.size w1 wr
  n1 : wr.heap[w1.heap.size]? = some (.cells (fill (.bool false) (rs.map (fun r => Value.bool (okOf r))) k).toArray 4 (0, 0))
  n2 : wr.heap[w1.heap.size + 1]? = some (.cells (fill (.bool false) (rs.map (fun r => Value.bool (mineOf r))) k).toArray 4 (0, 0))
  n3 : wr.heap[w1.heap.size + 1 + 1]? = some (.cells (fill (.int .i64 0) (rs.map (fun r => Value.int .i64 (atOf r))) k).toArray 3 (0, 0))
theorem Sp.start (w1 : World) (rs : List (Option (Bool × Int))) : Sp w1 (((w1.alloc (.cells (List.replicate rs.length (Value.bool false)).toArray 4)).alloc (.cells (List.replicate rs.length (Value.bool false)).toArray 4)).alloc (.cells (List.replicate rs.length (Value.int .i64 0)).toArray 3)) rs 0 where
  bel := (((Below.refl _ _).alloc (Nat.le_refl _) _).alloc (by simp) _).alloc (by simp; omega) _
  n1 := by rw [Below.heap_alloc _ _ _ (by simp; omega), Below.heap_alloc _ _ _ (by simp), heap_alloc_new, fill_zero]; simp
  n2 := by rw [Below.heap_alloc _ _ _ (by simp), heap_alloc_at _ _ _ (by simp), fill_zero]; simp
  n3 := by rw [heap_alloc_at _ _ _ (by simp), fill_zero]; simp
theorem Sp.on {w1 wr w2 : World} {rs : List (Option (Bool × Int))} {k : Nat} (R : Sp w1 wr rs k) (hb : Below wr.heap.size wr w2) : Sp w1 w2 rs k := by
  have s3 := (Array.getElem?_eq_some_iff.1 R.n3).1
  exact ⟨R.bel.trans (hb.mono R.bel.size), by rw [hb.block _ (by omega)]; exact R.n1, by rw [hb.block _ (by omega)]; exact R.n2, by rw [hb.block _ (by omega)]; exact R.n3⟩
theorem Sp.step {w1 wr : World} {rs : List (Option (Bool × Int))} {k : Nat} (R : Sp w1 wr rs k) (hk : k < rs.length) :
    Sp w1 (((wr.setCell ⟨w1.heap.size, k, none⟩ (.bool (okOf rs[k]))).setCell ⟨w1.heap.size + 1, k, none⟩ (.bool (mineOf rs[k]))).setCell ⟨w1.heap.size + 1 + 1, k, none⟩ (.int .i64 (atOf rs[k]))) rs (k + 1) := by
  refine ⟨((R.bel.setCell (Nat.le_refl _) _).setCell (by show _ ≤ w1.heap.size + 1; omega) _).setCell (by show _ ≤ w1.heap.size + 1 + 1; omega) _, ?_, ?_, ?_⟩
  · rw [heap_setCell_other _ ⟨w1.heap.size + 1 + 1, k, none⟩ w1.heap.size _ (by show w1.heap.size ≠ w1.heap.size + 1 + 1; omega), heap_setCell_other _ ⟨w1.heap.size + 1, k, none⟩ w1.heap.size _ (by show w1.heap.size ≠ w1.heap.size + 1; omega), heap_setCell_same _ w1.heap.size k _ 4 _ R.n1]
    rw [← fill_set _ _ k (by simpa using hk)]
    simp
  · have h2 : (wr.setCell ⟨w1.heap.size, k, none⟩ (.bool (okOf rs[k]))).heap[w1.heap.size + 1]? = _ := (heap_setCell_other _ ⟨w1.heap.size, k, none⟩ (w1.heap.size + 1) _ (by show w1.heap.size + 1 ≠ w1.heap.size; omega)).trans R.n2
    rw [heap_setCell_other _ ⟨w1.heap.size + 1 + 1, k, none⟩ (w1.heap.size + 1) _ (by show w1.heap.size + 1 ≠ w1.heap.size + 1 + 1; omega), heap_setCell_same _ (w1.heap.size + 1) k _ 4 _ h2]
    rw [← fill_set _ _ k (by simpa using hk)]
    simp
  · have h2 : ((wr.setCell ⟨w1.heap.size, k, none⟩ (.bool (okOf rs[k]))).setCell ⟨w1.heap.size + 1, k, none⟩ (.bool (mineOf rs[k]))).heap[w1.heap.size + 1 + 1]? = _ := (heap_setCell_other _ ⟨w1.heap.size + 1, k, none⟩ (w1.heap.size + 1 + 1) _ (by show w1.heap.size + 1 + 1 ≠ w1.heap.size + 1; omega)).trans ((heap_setCell_other _ ⟨w1.heap.size, k, none⟩ (w1.heap.size + 1 + 1) _ (by show w1.heap.size + 1 + 1 ≠ w1.heap.size; omega)).trans R.n3)
    rw [heap_setCell_same _ (w1.heap.size + 1 + 1) k _ 3 _ h2]
    rw [← fill_set _ _ k (by simpa using hk)]
    simp
/-- a row of lengths. -/
structure Sl (w3 wr : World) (ls : List Int) (k : Nat) : Prop where
  bel : Below w3.heap.size w3 wr
  n1 : wr.heap[w3.heap.size]? = some (.cells (fill (.int .i64 0) (ls.map (Value.int .i64)) k).toArray 3 (0, 0))
theorem Sl.start (w3 : World) (ls : List Int) : Sl w3 (w3.alloc (.cells (List.replicate ls.length (Value.int .i64 0)).toArray 3)) ls 0 where
  bel := (Below.refl _ _).alloc (Nat.le_refl _) _
  n1 := by rw [heap_alloc_new, fill_zero]; simp
theorem Sl.step {w3 wr : World} {ls : List Int} {k : Nat} (R : Sl w3 wr ls k) (hk : k < ls.length) : Sl w3 (wr.setCell ⟨w3.heap.size, k, none⟩ (.int .i64 ls[k])) ls (k + 1) := by
  refine ⟨R.bel.setCell (Nat.le_refl _) _, ?_⟩
  rw [heap_setCell_same _ w3.heap.size k _ 3 _ R.n1]
  rw [← fill_set _ _ k (by simpa using hk)]
  simp

/-- a full row is what it was to be. -/
theorem fill_dat {α β : Type} {enc : α → Value} {g : β → α} {w : World} {b : Nat} {t : TypeId} {z : Value} {l : List β} {k : Nat} (h : w.heap[b]? = some (.cells (fill z (l.map (fun r => enc (g r))) k).toArray t (0, 0))) (hk : l.length ≤ k) : Dat enc w (some ⟨b, 0, none⟩) (l.map g) := by
  refine ⟨fun _ => ⟨b, 0, rfl, (Array.getElem?_eq_some_iff.1 h).1, fun i hi => ?_⟩⟩
  simp only [List.length_map] at hi
  rw [Nat.zero_add, cell_at h, fill_full _ _ k (by simpa using hk)]
  simp [hi]

/-- what is read out. -/
def resL (M : Wms) (x : Inp) : List (Option (Bool × Int)) := List.zipWith (look M) (keyN x.wn x.rn) (keyE x.we x.rn x.i)
def SnapQ (lo lm : List Bool) (la ll : List Int) (n : Int) (w : World) (e : Ending) (w' : World) : Prop :=
  ∃ q1 q2 q3 q4, e = .returned (.tuple #[.slice (some ⟨q1, 0, none⟩) lo.length lo.length, .slice (some ⟨q2, 0, none⟩) lm.length lm.length, .slice (some ⟨q3, 0, none⟩) la.length la.length, .slice (some ⟨q4, 0, none⟩) ll.length ll.length, .int .i64 n]) ∧
    w.heap.size ≤ q1 ∧ w.heap.size ≤ q2 ∧ w.heap.size ≤ q3 ∧ w.heap.size ≤ q4 ∧
    Dat Value.bool w' (some ⟨q1, 0, none⟩) lo ∧ Dat Value.bool w' (some ⟨q2, 0, none⟩) lm ∧ Dat (Value.int .i64) w' (some ⟨q3, 0, none⟩) la ∧ Dat (Value.int .i64) w' (some ⟨q4, 0, none⟩) ll ∧ Below w.heap.size w w'
def SnapPost (M : Wms) (x : Inp) (w : World) (e : Ending) (w' : World) : Prop :=
  SnapQ ((resL M x).map okOf) ((resL M x).map mineOf) ((resL M x).map atOf) ((x.wn ++ x.rn).map (lenOf M)) M.length w e w'

set_option maxHeartbeats 4000000 in
set_option maxRecDepth 100000 in
theorem snap_any (B sb wm ab ob : Nat) (cs : List Value) (ca co : Array Value) (f : ByteArray → Nat) (M : Wms) (x : Inp) (w : World) (hx : InpOk w x) (hs : w.heap[sb]? = some (.cells cs.toArray 87 (0, 0))) (h5 : cs[5]? = some (.map (some wm)))
    (hW : Wat w B wm ab ob f M) (ha : w.heap[ab]? = some (.cells ca 71 (0, 0))) (hob : w.heap[ob]? = some (.cells co 71 (0, 0))) (hne : ab ≠ ob) :
    Calls Try.prog 35 #[.pointer (some ⟨sb, 0, none⟩), .pointer (some ⟨ab, 0, none⟩), .agg x.cells.toArray] w fun e w' => SnapPost M x w e w' := by
  have hbx : Below w.heap.size w (w.alloc (.cells x.cells.toArray 59)) := (Below.refl _ _).alloc (Nat.le_refl _) _
  have hk := keys_any x _ (hx.below hbx)
  have n1 := hx.n1
  have n3 := hx.n3
  have l4 := hx.l4
  have hln : (keyN x.wn x.rn).length = 2 * x.wn.length + x.rn.length := by rw [keyN, List.length_append, kn_len _ (fun _ => rfl)]
  have hle : (keyE x.we x.rn x.i).length = 2 * x.wn.length + x.rn.length := by rw [keyE, List.length_append, kn_len _ (fun _ => rfl)]; simp; omega
  have HLN : Hid _ := hln
  have HLE : Hid _ := hle
  have HL4 : Hid _ := l4
  clear l4
  have hlr : (resL M x).length = (keyN x.wn x.rn).length := by rw [resL, List.length_zipWith, hln, hle]; simp
  have HLR : Hid _ := hlr
  have m1 := mk_bools (keyN x.wn x.rn).length (by omega)
  have m2 := mk_ints (keyN x.wn x.rn).length (by omega)
  obtain ⟨nl, hnl⟩ : ∃ nl, nl = x.wn ++ x.rn := ⟨_, rfl⟩
  have HNL : Hid (nl = x.wn ++ x.rn) := hnl
  have hnk2 : nl.length ≤ 4194304 := by rw [hnl]; simp; omega
  have m3 := mk_ints nl.length hnk2
  clear hnl
  have hnk : (keyN x.wn x.rn).length ≤ 4194304 := by omega
  clear hln hle hlr
  unfold Inp.cells
  go_enter Try.func35, Try.ntmps35
  go_wp2_with fail
  refine hk.mono ?_
  intro e w1 hP
  obtain ⟨va, vc, ua, uc, rfl, hdn, hde, hb1⟩ := hP
  have hbw : Below w.heap.size w w1 := hbx.trans (hb1.mono hbx.size)
  have hbox1 : w1.heap[w.heap.size]? = some (.cells x.cells.toArray 59 (0, 0)) := by rw [hb1.block _ (by simp)]; exact heap_alloc_new w _
  have hsw : w.heap.size < w1.heap.size := (Array.getElem?_eq_some_iff.1 hbox1).1
  have HS1 : Hid _ := KeepsC.below hbw _ _ _ _ hs
  have HA1 : Hid _ := KeepsC.below hbw _ _ _ _ ha
  have HO1 : Hid _ := KeepsC.below hbw _ _ _ _ hob
  have HW1 : Hid _ := hW.keep (Keeps.below hbw)
  have HX1 : Hid _ := hx.below hbw
  have HBX : Hid _ := hbox1
  have H5 : Hid _ := h5
  have HST : Hid _ := Sp.start w1 (resL M x)
  rw [HLR.out] at HST
  clear hk hbx hb1 hs ha hob hW hx hbox1 h5
  go_wp2
  go_loopw [16] (fun j wr => ∃ k : Nat, k ≤ (keyN x.wn x.rn).length ∧ j = .int .i64 k ∧ Sp w1 wr (resL M x) k) (fun j _ => (keyN x.wn x.rn).length - (intOf j).toNat)
  case atStart => exact ⟨0, Nat.zero_le _, rfl, HST.out⟩
  case round =>
    obtain ⟨k, hk, rfl, R⟩ := hrel
    clear HST m1 m2
    by_cases hlt : k < (keyN x.wn x.rn).length
    · have hlt2 : k < (keyE x.we x.rn x.i).length := by rw [HLE.out, ← HLN.out]; exact hlt
      have hlt3 : k < (resL M x).length := by rw [HLR.out]; exact hlt
      have hrk : (resL M x)[k] = look M (keyN x.wn x.rn)[k] (keyE x.we x.rn x.i)[k] := by simp [resL]
      obtain ⟨b1, o1, rfl, hb1, hc1⟩ := hdn.at0 (by omega)
      obtain ⟨b2, o2, rfl, hb2, hc2⟩ := hde.at0 (by omega)
      have d1 := (R.bel.cell (p := ⟨b1, o1 + k, none⟩) hb1).trans (hc1 k hlt)
      have d2 := (R.bel.cell (p := ⟨b2, o2 + k, none⟩) hb2).trans (hc2 k hlt2)
      have i1 : (k : Int) < ((keyN x.wn x.rn).length : Int) := by omega
      have i2 : (k : Int) < ((keyE x.we x.rn x.i).length : Int) := by omega
      have s3 := (Array.getElem?_eq_some_iff.1 R.n3).1
      have hbd : Below w1.heap.size w1 wr.drew := bel_drew R.bel
      have hcall := watcher_any B sb wm ab ob cs ca co f M (keyN x.wn x.rn)[k] (keyE x.we x.rn x.i)[k] wr.drew (KeepsC.below hbd _ _ _ _ HS1.out) H5.out (HW1.out.keep (Keeps.below hbd)) (KeepsC.below hbd _ _ _ _ HA1.out) (KeepsC.below hbd _ _ _ _ HO1.out) hne
      rw [← hrk] at hcall
      have HRK : Hid _ := hrk
      clear hrk hc1 hc2 hbd
      go_wp2_with fail
      go_region_with (go_at_call 44; refine hcall.mono ?_; rintro e w2 ⟨rfl, hbw2⟩; unfold trip)
      all_goals
        have R2 := R.on (Below.trans (bel_drew (Below.refl _ _)) hbw2)
        have e1 := cell_at R2.n1 k
        rw [fill_at _ _ k (by simpa using hlt3)] at e1
        have e2 := cell_at R2.n2 k
        rw [fill_at _ _ k (by simpa using hlt3)] at e2
        have e3 := cell_at R2.n3 k
        rw [fill_at _ _ k (by simpa using hlt3)] at e3
        have f1 := free_at R2.n1 k
        have f2 := free_at R2.n2 k
        have f3 := free_at R2.n3 k
        have t3 : w1.heap.size + 1 + 1 < w2.heap.size := (Array.getElem?_eq_some_iff.1 R2.n3).1
        have t2 : w1.heap.size + 1 < w2.heap.size := by omega
        have t1 : w1.heap.size < w2.heap.size := by omega
        have HR : Hid _ := R2.step hlt3
        clear hcall hbw2 R R2
        go_wp2
        go_roundw
        case rel => exact ⟨k + 1, by omega, by go_num, HR.out⟩
        case measure => simp [intOf]; omega
    · obtain rfl : k = (keyN x.wn x.rn).length := by omega
      have hbr : Below w.heap.size w wr := hbw.trans (R.bel.mono hbw.size)
      have hbox : wr.heap[w.heap.size]? = some (.cells x.cells.toArray 59 (0, 0)) := by rw [R.bel.block _ hsw]; exact HBX.out
      have b0 := cell_at hbox 0
      have b1 := cell_at hbox 1
      have b2 := cell_at hbox 2
      have b3 := cell_at hbox 3
      have b4 := cell_at hbox 4
      have b5 := cell_at hbox 5
      have b6 := cell_at hbox 6
      have b7 := cell_at hbox 7
      simp only [Inp.cells, List.getElem?_cons_succ, List.getElem?_cons_zero] at b0 b1 b2 b3 b4 b5 b6 b7
      have hnames := names_any x wr (HX1.out.below R.bel)
      clear hdn hde
      go_wp2_with fail
      refine hnames.mono ?_
      intro e w3 hP
      obtain ⟨na, nc, rfl, hdm, hb3⟩ := hP
      rw [← HNL.out] at hdm ⊢
      have hb13 : Below w1.heap.size w1 w3 := R.bel.trans (hb3.mono R.bel.size)
      have R3 := R.on hb3
      have HST : Hid _ := Sl.start w3 (nl.map (lenOf M))
      rw [List.length_map] at HST
      have hnk3 : ((nl.map (lenOf M)).length) = nl.length := by simp
      have HN3 : Hid _ := hnk3
      clear hnames b0 b1 b2 b3 b4 b5 b6 b7 hbox hbr R hb3 hnk3
      go_wp2
      go_loopw [22] (fun j wq => ∃ k : Nat, k ≤ nl.length ∧ j = .int .i64 k ∧ Sl w3 wq (nl.map (lenOf M)) k) (fun j _ => nl.length - (intOf j).toNat)
      case atStart => exact ⟨0, Nat.zero_le _, rfl, HST.out⟩
      case round =>
        obtain ⟨k, hk, rfl, S⟩ := hrel
        clear HST m3
        have hbq : Below w1.heap.size w1 wr := hb13.trans (S.bel.mono hb13.size)
        by_cases hlt : k < nl.length
        · have hlt3 : k < (nl.map (lenOf M)).length := by rw [HN3.out]; exact hlt
          obtain ⟨b1, o1, rfl, hb1, hc1⟩ := hdm.at0 (by omega)
          have d1 := (S.bel.cell (p := ⟨b1, o1 + k, none⟩) hb1).trans (hc1 k hlt)
          have i1 : (k : Int) < (nl.length : Int) := by omega
          have e1 := cell_at S.n1 k
          rw [fill_at _ _ k (by simpa using hlt3)] at e1
          have f1 := free_at S.n1 k
          have t1 : w3.heap.size < wr.heap.size := (Array.getElem?_eq_some_iff.1 S.n1).1
          have hcall := watchLen_any B sb wm ab ob cs f M nl[k] wr (KeepsC.below hbq _ _ _ _ HS1.out) H5.out (HW1.out.keep (Keeps.below hbq))
          have HR : Hid (Sl w3 (wr.setCell ⟨w3.heap.size, k, none⟩ (.int .i64 (lenOf M nl[k]))) (nl.map (lenOf M)) (k + 1)) := by
            have := S.step hlt3
            rw [List.getElem_map] at this
            exact this
          clear hc1 S hbq R3 hb13 hdm
          go_wp2_with (go_at_call 47; refine hcall.mono ?_; rintro e w4 ⟨rfl, rfl⟩)
          go_roundw
          case rel => exact ⟨k + 1, by omega, by go_num, HR.out⟩
          case measure => simp [intOf]; omega
        · obtain rfl : k = nl.length := by omega
          have hcall := watchNames_any B sb wm ab ob cs f M wr (KeepsC.below hbq _ _ _ _ HS1.out) H5.out (HW1.out.keep (Keeps.below hbq))
          have R4 := R3.on S.bel
          have HP : Hid (SnapPost M x w (.returned (.tuple #[.slice (some ⟨w1.heap.size, 0, none⟩) (keyN x.wn x.rn).length (keyN x.wn x.rn).length, .slice (some ⟨w1.heap.size + 1, 0, none⟩) (keyN x.wn x.rn).length (keyN x.wn x.rn).length, .slice (some ⟨w1.heap.size + 1 + 1, 0, none⟩) (keyN x.wn x.rn).length (keyN x.wn x.rn).length, .slice (some ⟨w3.heap.size, 0, none⟩) nl.length nl.length, .int .i64 M.length])) wr) := by
            unfold SnapPost SnapQ
            rw [← HNL.out]
            have hz1 := hbw.size
            have hz3 := hb13.size
            refine ⟨w1.heap.size, w1.heap.size + 1, w1.heap.size + 1 + 1, w3.heap.size, ?_, by omega, by omega, by omega, by omega, fill_dat (g := okOf) R4.n1 (by rw [HLR.out]; exact Nat.le_refl _), fill_dat (g := mineOf) R4.n2 (by rw [HLR.out]; exact Nat.le_refl _), fill_dat (g := atOf) R4.n3 (by rw [HLR.out]; exact Nat.le_refl _), ?_, hbw.trans (hbq.mono hbw.size)⟩
            · simp only [List.length_map, HLR.out]
            · have := fill_dat (g := fun z : Int => z) S.n1 (by rw [HN3.out]; exact Nat.le_refl _)
              have e : (nl.map (lenOf M)).map (fun z : Int => z) = nl.map (lenOf M) := List.map_id _
              rw [e] at this
              exact this
          clear S hbq R3 hb13 hdm R4
          go_wp2_with (go_at_call 49; refine hcall.mono ?_; rintro e w4 ⟨rfl, rfl⟩)
          (try simp only [Exit.inBlock, Exit.then])
          refine bodyPost_ret (results_tmp5 rfl _ _ _) rfl ?_
          exact HP.out
end Go.Proofs.Qxb6602244a
