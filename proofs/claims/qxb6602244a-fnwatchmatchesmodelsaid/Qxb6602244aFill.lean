/-
  ZZFillWatchingB1 (29).
-/
import Derived.Test.Qxb6602244aWat
namespace Go.Proofs.Qxb6602244a
open Go.ChangeShapes Go.WideShapes Go.ChangeAt Go.RowKit
open ChangeMaps (setBlock)
set_option linter.unusedVariables false
set_option linter.unusedSimpArgs false

/-- the entries, as one list. -/
def entL (ns : List ByteArray) (es : List Int) (bs : List Bool) (zs : List Int) : List (ByteArray × Int × Bool × Int) := ns.zip (es.zip (bs.zip zs))
theorem entL_snoc (ns : List ByteArray) (es : List Int) (bs : List Bool) (zs : List Int) (k : Nat) (h1 : k < ns.length) (h2 : k < es.length) (h3 : k < bs.length) (h4 : k < zs.length) :
    (entL ns es bs zs).take (k + 1) = (entL ns es bs zs).take k ++ [(ns[k], es[k], bs[k], zs[k])] := by
  unfold entL
  rw [List.take_succ_eq_append_getElem (by simp; omega)]
  simp
theorem fillM_snoc (L : List (ByteArray × Int × Bool × Int)) (x : ByteArray × Int × Bool × Int) : fillM (L ++ [x]) = fstep (fillM L) x := by simp [fillM]

/-- while the watchers are laid. -/
structure Fl (w0 w wr : World) (wm ab ob : Nat) (L : List (ByteArray × Int × Bool × Int)) : Prop where
  ex : ∃ f, Wat wr w0.heap.size wm ab ob f (fillM L)
  bel : Below w0.heap.size w0 wr
  keep : KeepsC w wr
  size : w.heap.size < wr.heap.size
  oth : wr.heap[ob]? = some (.cells #[.slice none 0 0, .slice none 0 0, .slice none 0 0, .int .i64 0, .int .i64 0] 71 (0, 0))

theorem fl_start {w0 w : World} {wm ab : Nat} (hm : MapIs Value.string w wm []) (hL : Below w0.heap.size w0 w) (hwm : w0.heap.size ≤ wm) : Fl w0 w (w.alloc (.cells #[.slice none 0 0, .slice none 0 0, .slice none 0 0, .int .i64 0, .int .i64 0] 71)) wm ab w.heap.size [] where
  ex := ⟨fun _ => 0, hm.keep (Keeps.below ((Below.refl _ _).alloc (Nat.le_refl _) _)), fun n m h => by simp [fillM, get] at h, fun n n' m m' h => by simp [fillM, get] at h⟩
  bel := hL.alloc hL.size _
  keep := KeepsC.below ((Below.refl _ _).alloc (Nat.le_refl _) _)
  size := by simp
  oth := heap_alloc_new w _

/-- a name that is new gets its inner map. -/
theorem wat_new {w0 wr : World} {wm ab ob : Nat} {f : ByteArray → Nat} {M : Wms} (hW : Wat wr w0.heap.size wm ab ob f M) (hb : Below w0.heap.size w0 wr) (hwm : w0.heap.size ≤ wm) {n : ByteArray} (hn : get M n = none) (w1 : World) (hB1 : Below wr.heap.size wr w1) (hnew : w1.heap[wr.heap.size]? = some (.map #[] 0)) :
    ∃ w2 f2, (Instr.mapUpdate 84 (.map (some wm)) (.string n) (.map (some wr.heap.size))).run Try.prog w1 = .ok () w2 ∧ f2 n = wr.heap.size ∧ Wat w2 w0.heap.size wm ab ob f2 (upd M n []) ∧ Below w0.heap.size w0 w2 ∧ KeepsC wr w2 ∧ wr.heap.size < w2.heap.size := by
  have hsz : wr.heap.size < w1.heap.size := (Array.getElem?_eq_some_iff.1 hnew).1
  obtain ⟨es, c, hrun, hW2⟩ := (hW.keep (Keeps.below hB1)).fresh hn hnew hb.size (Ne.symm (Nat.ne_of_lt hW.out.lt)) (fun n m hm => Nat.ne_of_lt (hW.inn n m hm).1.lt)
  refine ⟨_, _, hrun, by simp, hW2, below_setBlock (hb.trans (hB1.mono hb.size)) hwm, (KeepsC.below hB1).trans (KeepsC.set (hW.keep (Keeps.below hB1)).out _), by rw [setBlock_size]; exact hsz⟩

/-- a watcher is laid. -/
theorem wat_lay {w0 w2 : World} {wm ab ob : Nat} {f : ByteArray → Nat} {M : Wms} (hW : Wat w2 w0.heap.size wm ab ob f M) (hb : Below w0.heap.size w0 w2) {n : ByteArray} {m : Inn} (hn : get M n = some m) (i : Int) (b : Bool) (z : Int) (q : Nat) (hq : q = if b then ab else ob) (r : Nat) (hr : f n = r) (w1 : World) (hB1 : Below w2.heap.size w2 w1) :
    ∃ w3, (Instr.mapUpdate 94 (.map (some r)) (.int .i64 i) (.agg #[.pointer (some ⟨q, 0, none⟩), .int .i64 z])).run Try.prog w1 = .ok () w3 ∧ Wat w3 w0.heap.size wm ab ob f (upd M n (upd m i (b, z))) ∧ Below w0.heap.size w0 w3 ∧ KeepsC w2 w3 ∧ w2.heap.size ≤ w3.heap.size := by
  subst hq
  subst hr
  obtain ⟨es, c, hrun, hW2⟩ := (hW.keep (Keeps.below hB1)).lay hn i (b, z)
  exact ⟨_, hrun, hW2, below_setBlock (hb.trans (hB1.mono hb.size)) (hW.inn n m hn).2.1, (KeepsC.below hB1).trans (KeepsC.set ((hW.keep (Keeps.below hB1)).inn n m hn).1 _), by rw [setBlock_size]; exact hB1.size⟩
theorem bel_ad (w : World) (o : Obj) : Below w.heap.size w (w.alloc o).drew := ((Below.refl _ _).alloc (Nat.le_refl _) _).drew

set_option maxHeartbeats 4000000 in
set_option maxRecDepth 100000 in
theorem fill_any (w0 : World) (sb wm ab : Nat) (cs : List Value) (a3 a4 a5 a6 : Option Addr) (c3 c4 c5 c6 : Nat) (ns : List ByteArray) (es : List Int) (bs : List Bool) (zs : List Int) (w : World)
    (hs : w.heap[sb]? = some (.cells cs.toArray 87 (0, 0))) (h5 : cs[5]? = some (.map (some wm))) (hm : MapIs Value.string w wm []) (hL : Below w0.heap.size w0 w) (hwm : w0.heap.size ≤ wm)
    (d3 : Dat Value.string w0 a3 ns) (d4 : Dat (Value.int .i64) w0 a4 es) (d5 : Dat Value.bool w0 a5 bs) (d6 : Dat (Value.int .i64) w0 a6 zs)
    (l4 : es.length = ns.length) (l5 : bs.length = ns.length) (l6 : zs.length = ns.length) (hn : ns.length ≤ 1048576) :
    Calls Try.prog 29 #[.pointer (some ⟨sb, 0, none⟩), .pointer (some ⟨ab, 0, none⟩), .slice a3 ns.length c3, .slice a4 es.length c4, .slice a5 bs.length c5, .slice a6 zs.length c6] w fun e w' =>
      e = .returned (.tuple #[]) ∧ Fl w0 w w' wm ab w.heap.size (entL ns es bs zs) := by
  have H5 : Hid _ := h5
  have HS : Hid _ := hs
  have HFL : Hid _ := fl_start hm hL hwm (ab := ab)
  have hsb : sb < w.heap.size := (Array.getElem?_eq_some_iff.1 hs).1
  have HL4 : Hid _ := l4
  have HL5 : Hid _ := l5
  have HL6 : Hid _ := l6
  clear h5 hs hm l4 l5 l6
  have q94 := eql94
  have hmm := @run_makeMap Try.prog
  go_enter Try.func29, Try.ntmps29
  go_wp2
  go_loopw [21] (fun i wr => ∃ k : Nat, k ≤ ns.length ∧ i = .int .i64 k ∧ Fl w0 w wr wm ab w.heap.size ((entL ns es bs zs).take k)) (fun i _ => ns.length - (intOf i).toNat)
  case atStart => exact ⟨0, Nat.zero_le _, rfl, HFL.out⟩
  case round =>
    obtain ⟨k, hk, rfl, R⟩ := hrel
    clear HFL
    by_cases hlt : k < ns.length
    · have hlt4 : k < es.length := by have := HL4.out; omega
      have hlt5 : k < bs.length := by have := HL5.out; omega
      have hlt6 : k < zs.length := by have := HL6.out; omega
      obtain ⟨b3, o3, rfl, hb3, hc3⟩ := d3.at0 (by omega)
      obtain ⟨b4, o4, rfl, hb4, hc4⟩ := d4.at0 (by omega)
      obtain ⟨b5, o5, rfl, hb5, hc5⟩ := d5.at0 (by omega)
      obtain ⟨b6, o6, rfl, hb6, hc6⟩ := d6.at0 (by omega)
      have e3 := (R.bel.cell (p := ⟨b3, o3 + k, none⟩) hb3).trans (hc3 k hlt)
      have e4 := (R.bel.cell (p := ⟨b4, o4 + k, none⟩) hb4).trans (hc4 k hlt4)
      have e5 := (R.bel.cell (p := ⟨b5, o5 + k, none⟩) hb5).trans (hc5 k hlt5)
      have e6 := (R.bel.cell (p := ⟨b6, o6 + k, none⟩) hb6).trans (hc6 k hlt6)
      have hki : (k : Int) < (ns.length : Int) := by omega
      have hki4 : (k : Int) < (es.length : Int) := by omega
      have hki5 : (k : Int) < (bs.length : Int) := by omega
      have hki6 : (k : Int) < (zs.length : Int) := by omega
      have hsz := R.size
      have hbs := R.bel.size
      have es5 := (cell_at (R.keep _ _ _ _ HS.out) 5).trans H5.out
      obtain ⟨f, hW⟩ := R.ex
      clear hc3 hc4 hc5 hc6
      have HZ : Hid _ := entL_snoc ns es bs zs k hlt hlt4 hlt5 hlt6
      have hsbr : sb < wr.heap.size := by omega
      have hbr4 : b4 < wr.heap.size := by omega
      have hbr5 : b5 < wr.heap.size := by omega
      have hbr6 : b6 < wr.heap.size := by omega
      cases hg : get (fillM ((entL ns es bs zs).take k)) ns[k] with
      | none =>
        have q1 := hW.look_none hg
        obtain ⟨w2, f2, hup, hf2, hW2, bel2, keep2, sz2⟩ := wat_new hW R.bel hwm hg _ ((Below.refl _ _).alloc (Nat.le_refl _) _) (heap_alloc_new wr _)
        have e4' := (bel2.cell (p := ⟨b4, o4 + k, none⟩) hb4).trans ((R.bel.cell (p := ⟨b4, o4 + k, none⟩) hb4).symm.trans e4)
        have e5' := (bel2.cell (p := ⟨b5, o5 + k, none⟩) hb5).trans ((R.bel.cell (p := ⟨b5, o5 + k, none⟩) hb5).symm.trans e5)
        have e6' := (bel2.cell (p := ⟨b6, o6 + k, none⟩) hb6).trans ((R.bel.cell (p := ⟨b6, o6 + k, none⟩) hb6).symm.trans e6)
        have g4 : b4 < w2.heap.size := by omega
        have g5 : b5 < w2.heap.size := by omega
        have hg2 : get (upd (fillM ((entL ns es bs zs).take k)) ns[k] []) ns[k] = some [] := by rw [get_upd]; simp
        cases hmi : bs[k] with
        | true =>
          rw [hmi] at e5 e5'
          obtain ⟨w3, hlay, hW3, bel3, keep3, sz3⟩ := wat_lay hW2 bel2 hg2 es[k] true zs[k] ab rfl wr.heap.size hf2 _ (bel_ad w2 (.cells #[.pointer (some ⟨ab, 0, none⟩), .int .i64 zs[k]] 96))
          have HR : Hid (Fl w0 w w3 wm ab w.heap.size ((entL ns es bs zs).take (k + 1))) := by
            refine ⟨⟨f2, ?_⟩, bel3, R.keep.trans (keep2.trans keep3), by omega, (keep2.trans keep3) _ _ _ _ R.oth⟩
            rw [HZ.out, fillM_snoc]
            unfold fstep put
            simp only [hmi, hg, Option.getD_none, Option.getD_some]
            rw [upd_upd] at hW3; exact hW3
          clear hW3 keep3
          go_wp2
          go_region
          all_goals
            go_wp2
            go_roundw
            case rel => exact ⟨k + 1, by omega, by go_num, HR.out⟩
            case measure => simp [intOf]; omega
        | false =>
          rw [hmi] at e5 e5'
          obtain ⟨w3, hlay, hW3, bel3, keep3, sz3⟩ := wat_lay hW2 bel2 hg2 es[k] false zs[k] w.heap.size rfl wr.heap.size hf2 _ (bel_ad w2 (.cells #[.pointer (some ⟨w.heap.size, 0, none⟩), .int .i64 zs[k]] 96))
          have HR : Hid (Fl w0 w w3 wm ab w.heap.size ((entL ns es bs zs).take (k + 1))) := by
            refine ⟨⟨f2, ?_⟩, bel3, R.keep.trans (keep2.trans keep3), by omega, (keep2.trans keep3) _ _ _ _ R.oth⟩
            rw [HZ.out, fillM_snoc]
            unfold fstep put
            simp only [hmi, hg, Option.getD_none, Option.getD_some]
            rw [upd_upd] at hW3; exact hW3
          clear hW3 keep3
          go_wp2
          go_region
          all_goals
            go_wp2
            go_roundw
            case rel => exact ⟨k + 1, by omega, by go_num, HR.out⟩
            case measure => simp [intOf]; omega
      | some m =>
        have q1 := hW.look_some hg
        have hfr : f ns[k] < wr.heap.size := (hW.inn _ _ hg).1.lt
        cases hmi : bs[k] with
        | true =>
          rw [hmi] at e5 
          obtain ⟨w3, hlay, hW3, bel3, keep3, sz3⟩ := wat_lay hW R.bel hg es[k] true zs[k] ab rfl (f ns[k]) rfl _ (bel_ad wr (.cells #[.pointer (some ⟨ab, 0, none⟩), .int .i64 zs[k]] 96))
          have HR : Hid (Fl w0 w w3 wm ab w.heap.size ((entL ns es bs zs).take (k + 1))) := by
            refine ⟨⟨f, ?_⟩, bel3, R.keep.trans keep3, by omega, keep3 _ _ _ _ R.oth⟩
            rw [HZ.out, fillM_snoc]
            unfold fstep put
            simp only [hmi, hg, Option.getD_none, Option.getD_some]
            exact hW3
          clear hW3 keep3
          go_wp2
          go_region
          all_goals
            go_wp2
            go_roundw
            case rel => exact ⟨k + 1, by omega, by go_num, HR.out⟩
            case measure => simp [intOf]; omega
        | false =>
          rw [hmi] at e5 
          obtain ⟨w3, hlay, hW3, bel3, keep3, sz3⟩ := wat_lay hW R.bel hg es[k] false zs[k] w.heap.size rfl (f ns[k]) rfl _ (bel_ad wr (.cells #[.pointer (some ⟨w.heap.size, 0, none⟩), .int .i64 zs[k]] 96))
          have HR : Hid (Fl w0 w w3 wm ab w.heap.size ((entL ns es bs zs).take (k + 1))) := by
            refine ⟨⟨f, ?_⟩, bel3, R.keep.trans keep3, by omega, keep3 _ _ _ _ R.oth⟩
            rw [HZ.out, fillM_snoc]
            unfold fstep put
            simp only [hmi, hg, Option.getD_none, Option.getD_some]
            exact hW3
          clear hW3 keep3
          go_wp2
          go_region
          all_goals
            go_wp2
            go_roundw
            case rel => exact ⟨k + 1, by omega, by go_num, HR.out⟩
            case measure => simp [intOf]; omega
    · go_wp2
      go_end0
      have e : (entL ns es bs zs).take k = entL ns es bs zs := List.take_of_length_le (by unfold entL; simp; omega)
      rw [e] at R
      exact ⟨rfl, R⟩
end Go.Proofs.Qxb6602244a
