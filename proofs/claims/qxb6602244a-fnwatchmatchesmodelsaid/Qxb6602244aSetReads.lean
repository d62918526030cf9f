/-
  ZZSetReadsB1 (36).
-/
import Derived.Test.Qxb6602244aSaw
namespace Go.Proofs.Qxb6602244a
open Go.ChangeShapes Go.WideShapes Go.ChangeAt Go.RowKit
set_option linter.unusedVariables false

/-- while the reads are laid. -/
structure SetR (w wr : World) (ab nn : Nat) (na : Option Addr) (nc : Nat) (un nx ch v : Value) (rs : List (ByteArray × Int)) : Prop where
  chg : Chg w wr ab none
  hb : wr.heap[ab]? = some (.cells #[.slice na nn nc, un, v, nx, ch] 71 (0, 0))
  own : wr.ownsRow w.heap.size 93 2 v rs.length (rs.flatMap rd)

theorem Chg.below {w0 w w' : World} {ab : Nat} {rb : Option Nat} (hc : Chg w w' ab rb) (hL : Below w0.heap.size w0 w) (h1 : w0.heap.size ≤ ab) (h2 : ∀ q, rb = some q → w0.heap.size ≤ q) : Below w0.heap.size w0 w' :=
  ⟨hc.os.trans hL.os, hc.tape.trans hL.tape, hc.output.trans hL.output, Nat.le_trans hL.size hc.size, fun k hk => by
    have := hL.size
    rw [hc.block k (by omega) (by omega) (by intro e; have := h2 k e.symm; omega)]; exact hL.block k hk⟩

theorem setR_start {w : World} {ab nn : Nat} {na : Option Addr} {nc : Nat} {un v0 nx ch : Value} (hb : w.heap[ab]? = some (.cells #[.slice na nn nc, un, v0, nx, ch] 71 (0, 0))) :
    SetR w (w.setCell ⟨ab, 2, none⟩ (.slice none 0 0)) ab nn na nc un nx ch (.slice none 0 0) [] where
  chg := ⟨rfl, rfl, rfl, by rw [World.size_setCell]; exact Nat.le_refl _, fun k hk hne _ => heap_setCell_other w ⟨ab, 2, none⟩ k _ hne⟩
  hb := by rw [heap_setCell_same w ab 2 _ 71 _ hb]; rfl
  own := World.ownsRow_nil _ _ _ _

theorem setR_step {w wr w1 : World} {ab nn : Nat} {na : Option Addr} {nc : Nat} {un nx ch v v' : Value} {rs : List (ByteArray × Int)} {nm : ByteArray} {n : Int} {o : Obj} (R : SetR w wr ab nn na nc un nx ch v rs)
    (h1 : w1.ownsRow w.heap.size 93 2 v' (rs ++ [(nm, n)]).length ((rs ++ [(nm, n)]).flatMap rd)) (h2 : (wr.alloc o).drew.grownBy w1 v.ownBlock) :
    SetR w (w1.setCell ⟨ab, 2, none⟩ v') ab nn na nc un nx ch v' (rs ++ [(nm, n)]) where
  chg := by
    have hc := chg_of (ab := ab) (x := v') h2
    refine ⟨hc.os.trans R.chg.os, hc.tape.trans R.chg.tape, hc.output.trans R.chg.output, Nat.le_trans R.chg.size hc.size, ?_⟩
    intro k hk hne _
    have := R.chg.size
    rw [hc.block k (by omega) hne (by intro e; have := (R.own.lt k e.symm).1; omega)]
    exact R.chg.block k hk hne (by simp)
  hb := by rw [heap_setCell_same w1 ab 2 _ 71 v' (att_block R.hb R.own h2)]; rfl
  own := own_set (att_block R.hb R.own h2) h1

theorem zip_snoc (ss : List ByteArray) (zs : List Int) (k : Nat) (h : k < ss.length) (h' : k < zs.length) : (ss.zip zs).take (k + 1) = (ss.zip zs).take k ++ [(ss[k], zs[k])] := by
  rw [List.take_succ_eq_append_getElem (by simp; omega)]
  simp

set_option maxHeartbeats 2000000 in
theorem setReads_any (w0 : World) (ab nn : Nat) (na : Option Addr) (nc : Nat) (un v0 nx ch : Value) (a1 a2 : Option Addr) (ss : List ByteArray) (zs : List Int) (c1 c2 : Nat) (w : World)
    (hb : w.heap[ab]? = some (.cells #[.slice na nn nc, un, v0, nx, ch] 71 (0, 0))) (hL : Below w0.heap.size w0 w) (hab : w0.heap.size ≤ ab)
    (hd1 : Dat Value.string w0 a1 ss) (hd2 : Dat (Value.int .i64) w0 a2 zs) (hl : ss.length = zs.length) (hn : ss.length ≤ 1048576) :
    Calls Try.prog 36 #[.pointer (some ⟨ab, 0, none⟩), .slice a1 ss.length c1, .slice a2 zs.length c2] w fun e w' => e = .returned (.tuple #[]) ∧ ∃ rb, Att w' w.heap.size ab nn (ss.zip zs) rb ∧ Chg w w' ab none := by
  have HL : Hid (ss.length = zs.length) := hl
  have hle : ss.length ≤ zs.length := by omega
  have k2 := cell_at (cs := [_, _, _, _, _]) hb 2
  have f2 := free_at hb 2
  simp only [List.getElem?_cons_succ, List.getElem?_cons_zero] at k2
  have HS : Hid _ := setR_start hb
  clear hl hb
  go_enter Try.func36, Try.ntmps36
  go_wp2
  go_loopw [13] (fun i wr => ∃ (k : Nat) (v : Value), k ≤ ss.length ∧ i = .int .i64 k ∧ SetR w wr ab nn na nc un nx ch v ((ss.zip zs).take k)) (fun i _ => ss.length - (intOf i).toNat)
  case atStart => exact ⟨0, _, Nat.zero_le _, rfl, HS.out⟩
  case round =>
    obtain ⟨k, v, hk, rfl, R⟩ := hrel
    clear k2 f2 HS
    by_cases hlt : k < ss.length
    · have hlt' : k < zs.length := by omega
      obtain ⟨b1, o1, rfl, hb1, hc1⟩ := hd1.at0 (by omega)
      obtain ⟨b2, o2, rfl, hb2, hc2⟩ := hd2.at0 (by omega)
      have hLr := R.chg.below hL hab (by simp)
      have d1 := (hLr.cell (p := ⟨b1, o1 + k, none⟩) hb1).trans (hc1 k hlt)
      have d2 := (hLr.cell (p := ⟨b2, o2 + k, none⟩) hb2).trans (hc2 k hlt')
      have e2 := cell_at (cs := [_, _, _, _, _]) R.hb 2
      have f2 := free_at R.hb 2
      simp only [List.getElem?_cons_succ, List.getElem?_cons_zero] at e2
      have habr : ab < wr.heap.size := (Array.getElem?_eq_some_iff.1 R.hb).1
      have hbr2 : b2 < wr.heap.size := by have := hLr.size; omega
      have hown := R.own
      have hsz := R.chg.size
      have hrl : ((ss.zip zs).take k).length ≤ 4194304 := by simp; omega
      have HZ : Hid _ := zip_snoc ss zs k hlt hlt'
      have hki : (k : Int) < (zs.length : Int) := by omega
      clear hc1 hc2 hLr
      go_wp2
      go_region_law (refine step_read rfl (.tmp 22) (.tmp 29) rfl w.heap.size v ((ss.zip zs).take k) ss[k] zs[k] ⟨wr.heap.size, 0, none⟩ rfl rfl (own_alloc_drew hown _) (rd_cells wr ss[k] zs[k]) hrl (by simp; omega) ?_; intro v' w1 h1 h2 h3; obtain ⟨va, vm, vc, rfl⟩ := own_slice h1; have k1 := cell_at (cs := [_, _, _, _, _]) (att_block R.hb hown h2) 2; have k2 := free_at (att_block R.hb hown h2) 2; simp only [List.getElem?_cons_succ, List.getElem?_cons_zero] at k1)
      all_goals
        have HR : Hid _ := setR_step R h1 h2
        clear h1 h2 h3 k1 k2
        go_wp2
        go_roundw
        case rel => exact ⟨k + 1, _, by omega, by go_num, by rw [HZ.out]; exact HR.out⟩
        case measure => simp [intOf]; omega
    · go_wp2
      go_end0
      have e : (ss.zip zs).take k = ss.zip zs := List.take_of_length_le (by have := HL.out; simp; omega)
      rw [e] at R
      exact ⟨rfl, v.ownBlock, ⟨na, nc, un, v, nx, ch, R.hb, R.own, rfl⟩, R.chg⟩
end Go.Proofs.Qxb6602244a
