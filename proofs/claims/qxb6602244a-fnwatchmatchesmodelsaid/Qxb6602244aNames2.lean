/-
  zzWatchNameListB1 (46) again, with what is known of the slice's cap.
-/
import Derived.Test.Qxb6602244aNames
namespace Go.Proofs.Qxb6602244a
open Go.ChangeShapes Go.WideShapes Go.ChangeAt Go.RowKit
set_option linter.unusedVariables false
set_option linter.unusedSimpArgs false

theorem own_cap {w : World} {B : Nat} {e : TypeId} {z : Nat} {va : Option Addr} {n vc : Nat} {xs : List Value} (h : w.ownsRow B e z (.slice va n vc) n xs) : n ≤ vc := by
  rcases h.2 with ⟨hv, h0⟩ | ⟨g, cap, cur, hv, hbg, hg, hc, r⟩
  · omega
  · injection hv with hv1 hv2 hv3
    omega
def NamesPost2 (x : Inp) (w : World) (e : Ending) (w' : World) : Prop :=
  ∃ va vc, e = .returned (.slice va (x.wn ++ x.rn).length vc) ∧ Dat Value.string w' va (x.wn ++ x.rn) ∧ Below w.heap.size w w' ∧ (x.wn ++ x.rn).length ≤ vc

set_option maxHeartbeats 4000000 in
set_option maxRecDepth 100000 in
theorem names_any2 (x : Inp) (w : World) (hx : InpOk w x) : Calls Try.prog 46 #[.agg x.cells.toArray] w fun e w' => NamesPost2 x w e w' := by
  have n1 := hx.n1
  have n3 := hx.n3
  have m1 := mk_strs0 (x.wn.length + x.rn.length) (by omega)
  have HS : Hid _ := nl_start w x.cells (x.wn.length + x.rn.length) (by omega)
  have ec : ((x.wn.length + x.rn.length : Nat) : Int) = (x.wn.length : Int) + x.rn.length := by omega
  rw [ec] at m1
  clear ec
  unfold Inp.cells
  go_enter Try.func46, Try.ntmps46
  go_wp2
  go_loopw [3, 4] (fun v j wr => ∃ (k : Nat) (va : Option Addr) (vc : Nat), k ≤ x.wn.length ∧ j = .int .i64 k ∧ v = .slice va k vc ∧ Kb w wr x.cells (.slice va k vc) (.slice none 0 0) (x.wn.take k) []) (fun _ j _ => x.wn.length - (intOf j).toNat)
  case atStart => exact ⟨0, _, _, Nat.zero_le _, rfl, rfl, HS.out⟩
  case round =>
    obtain ⟨k, va, vc, hk, rfl, rfl, R⟩ := hrel
    clear HS m1
    have hwr : w.heap.size < wr.heap.size := (Array.getElem?_eq_some_iff.1 R.box).1
    have b0 := cell_at R.box 0
    have b2 := cell_at R.box 2
    simp only [Inp.cells, List.getElem?_cons_succ, List.getElem?_cons_zero] at b0 b2
    by_cases hlt : k < x.wn.length
    · obtain ⟨g3, o3, ea3, hg3, hc3⟩ := hx.d3.at0 (by omega)
      rw [ea3] at b2
      have e3 := (R.bel.cell (p := ⟨g3, o3 + k, none⟩) hg3).trans (hc3 k hlt)
      obtain ⟨va', vc', w1, hr1, R1⟩ := R.app1 (by simp; omega) [x.wn[k]] (by simp) (by simp) (wr.alloc (.cells #[.string x.wn[k]] 9)) ((Below.refl _ _).alloc (Nat.le_refl _) _) (heap_alloc_new wr _) 22
      rw [← List.take_succ_eq_append_getElem hlt] at hr1 R1
      have m1 : (x.wn.take (k + 1)).length = k + 1 := by simp; omega
      rw [m1] at hr1 R1
      simp only [List.length_cons, List.length_nil, Nat.zero_add] at hr1
      have hki : (k : Int) < (x.wn.length : Int) := by omega
      have g3r : g3 < wr.heap.size := by omega
      have HR : Hid (Kb w w1 x.cells (.slice va' (k + 1) vc') (.slice none 0 0) (x.wn.take (k + 1)) []) := R1
      clear hc3 R R1 m1 ea3
      go_wp2_with (at_builtin; refine wpList_app rfl (.tmp 21) (.tmp 27) 22 rfl _ _ _ _ rfl rfl hr1 ?_)
      go_roundw
      case rel => exact ⟨k + 1, _, _, by omega, by go_num, rfl, HR.out⟩
      case measure => simp [intOf]; omega
    · obtain rfl : k = x.wn.length := by omega
      rw [List.take_of_length_le (Nat.le_refl _)] at R
      go_wp2
      go_loopw [3, 5] (fun v j wr => ∃ (q : Nat) (va : Option Addr) (vc : Nat), q ≤ x.rn.length ∧ j = .int .i64 q ∧ v = .slice va (x.wn.length + q) vc ∧ Kb w wr x.cells (.slice va (x.wn.length + q) vc) (.slice none 0 0) (x.wn ++ x.rn.take q) []) (fun _ j _ => x.rn.length - (intOf j).toNat)
      case atStart => exact ⟨0, _, _, Nat.zero_le _, rfl, rfl, by simpa using R⟩
      case round =>
        clear R b0 b2 hwr
        obtain ⟨q, va, vc, hq, rfl, rfl, R⟩ := hrel
        have hwr : w.heap.size < wr.heap.size := (Array.getElem?_eq_some_iff.1 R.box).1
        have b0 := cell_at R.box 0
        simp only [Inp.cells, List.getElem?_cons_succ, List.getElem?_cons_zero] at b0
        by_cases hql : q < x.rn.length
        · obtain ⟨g1, o1, ea1, hg1, hc1⟩ := hx.d1.at0 (by omega)
          rw [ea1] at b0
          have e1 := (R.bel.cell (p := ⟨g1, o1 + q, none⟩) hg1).trans (hc1 q hql)
          obtain ⟨va', vc', w1, hr1, R1⟩ := R.app1 (by simp; omega) [x.rn[q]] (by simp) (by simp) (wr.alloc (.cells #[.string x.rn[q]] 9)) ((Below.refl _ _).alloc (Nat.le_refl _) _) (heap_alloc_new wr _) 22
          rw [List.append_assoc, ← List.take_succ_eq_append_getElem hql] at hr1 R1
          have m1 : (x.wn ++ x.rn.take (q + 1)).length = x.wn.length + q + 1 := by simp; omega
          rw [m1] at hr1 R1
          simp only [List.length_cons, List.length_nil, Nat.zero_add] at hr1
          have hqi : (q : Int) < (x.rn.length : Int) := by omega
          have g1r : g1 < wr.heap.size := by omega
          have HR : Hid (Kb w w1 x.cells (.slice va' (x.wn.length + (q + 1)) vc') (.slice none 0 0) (x.wn ++ x.rn.take (q + 1)) []) := R1
          clear hc1 R R1 m1 ea1
          go_wp2_with (at_builtin; refine wpList_app rfl (.tmp 36) (.tmp 42) 22 rfl _ _ _ _ rfl rfl hr1 ?_)
          go_roundw
          case rel => exact ⟨q + 1, _, _, by omega, by go_num, rfl, HR.out⟩
          case measure => simp [intOf]; omega
        · obtain rfl : q = x.rn.length := by omega
          rw [List.take_of_length_le (Nat.le_refl _)] at R
          have HP : Hid (NamesPost2 x w (.returned (.slice va (x.wn.length + x.rn.length) vc)) wr) := by
            have l1 : (x.wn ++ x.rn).length = x.wn.length + x.rn.length := by simp
            have ho := R.o1
            rw [l1] at ho
            exact ⟨va, vc, by rw [l1], own_dat ho, R.bel, by rw [l1]; exact own_cap ho⟩
          clear R
          go_wp2
          go_ret
          exact HP.out

end Go.Proofs.Qxb6602244a
