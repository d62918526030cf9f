/-
  zzBuildChainB1 (18).
-/
import Derived.Test.Qxb6602244aChain
namespace Go.Proofs.Qxb6602244a
open Go.ChangeShapes Go.WideShapes Go.ChangeAt Go.RowKit
set_option linter.unusedVariables false

theorem info31 : (Try.prog.info? 31).map (fun i => (i.zero, i.size, i.bytes)) = some (some (.pointer none), 1, 8) := by kernel_rfl
/-- 'make([]*scope, n)'. -/
theorem mk_scopes (n : Nat) (hn : n ≤ 65536) (w : World) :
    (Instr.makeSlice 38 (.int .i64 n) (.int .i64 n)).run Try.prog w = .ok (.slice (some ⟨w.heap.size, 0, none⟩) n n) (w.alloc (.cells (List.replicate n (.pointer none)).toArray 31)) := by
  obtain ⟨i0, hi, hz0, hz1, hz2⟩ := info_parts info31
  have h := run_make (P := Try.prog) w 38 31 i0 (.pointer none) Try.underlying38 hi hz0 .i64 .i64 n n (by omega) (by omega) (by rw [hz2]; omega) (by omega)
  rw [h]
  simp only [Int.toNat_natCast, hz1, Nat.mul_one]
  have e : madeCells (Value.pointer none).cells n = (List.replicate n (Value.pointer none)).toArray := by
    apply Array.ext'
    rw [show (Value.pointer none).cells = #[.pointer none] from rfl, toList_madeCells_one]
  rw [e]

set_option maxHeartbeats 4000000 in
set_option maxRecDepth 100000 in
theorem build_any (a : Option Addr) (fs : List Fr) (cap : Nat) (w : World) (hF : Frames w a fs) (hn : fs.length ≤ 65536) (hg : ∀ f ∈ fs, good f) (hfit : fs.all fits = true) :
    Calls Try.prog 18 #[.slice a fs.length cap] w fun e w' => e = .returned (.slice (some ⟨w.heap.size, 0, none⟩) fs.length fs.length) ∧ ∃ sb, Bld w w' fs 0 sb := by
  have HG : Hid _ := hg
  have HF : Hid (∀ f ∈ fs, fits f = true) := by intro f hf; exact List.all_eq_true.1 hfit f hf
  have hmk := mk_scopes fs.length hn
  have HS : Hid _ := bld_start w fs
  clear hg hfit
  go_enter Try.func18, Try.ntmps18
  go_wp2
  go_loopw [4, 5] (fun o j wr => ∃ (q : Nat) (sb : Nat → Nat), q ≤ fs.length ∧ j = .int .i64 ((q : Int) - 1) ∧ o = (if q < fs.length then ptr (sb q) else .pointer none) ∧ Bld w wr fs q sb) (fun _ j _ => (intOf j + 1).toNat)
  case atStart => exact ⟨fs.length, _, Nat.le_refl _, rfl, by rw [if_neg (by omega)], by simpa using HS.out⟩
  case round =>
    obtain ⟨q, sb, hq, rfl, ho, R⟩ := hrel
    clear HS hmk
    by_cases hlt : 0 < q
    · obtain ⟨p, rfl⟩ : ∃ p, q = p + 1 := ⟨q - 1, by omega⟩
      have hp : p < fs.length := by omega
      obtain ⟨b, off, rfl, hb, hc⟩ := hF.at0 (by omega)
      have hD := hF.each fs[p] (List.getElem_mem hp)
      obtain ⟨k0, k1, k2, k3, k4, k5, k6⟩ := (hc p hp).below R.bel hb
      have hD' := (hD.below R.bel)
      have hki : (p : Int) < (fs.length : Int) := by omega
      obtain ⟨g1, g2, g3, g6, g7, g8⟩ := HG.out fs[p] (List.getElem_mem hp)
      have hft := HF.out fs[p] (List.getElem_mem hp)
      simp only [fits, decide_eq_true_eq] at hft
      have hla := fun o => (Below.refl wr.heap.size wr).alloc (Nat.le_refl _) o
      obtain ⟨ov, hov⟩ : ∃ ov, ov = (if p + 1 < fs.length then ptr (sb (p + 1)) else .pointer none) := ⟨_, rfl⟩
      have HOV : Hid (ov = (if p + 1 < fs.length then ptr (sb (p + 1)) else .pointer none)) := hov
      have hovp : ov = .pointer none ∨ ∃ a, ov = .pointer (some a) := by
        rw [hov]; split
        · exact .inr ⟨_, rfl⟩
        · exact .inl rfl
      rw [← hov] at ho
      subst ho
      have H8 : Hid _ := g8
      have HFT : Hid _ := hft
      have HOP : Hid _ := hovp
      clear hc g8 hft hov hovp
      go_wp2_with fail
      refine (new_any u4 HOP.out _ _ _ _ _ _ _ _ _ _ fs[p].vn fs[p].vb fs[p].dc fs[p].hw fs[p].nn fs[p].rn fs[p].ra _ (hD'.d1.below (hla _)) (hD'.d2.below (hla _)) (hD'.d3.below (hla _)) (hD'.d6.below (hla _)) (hD'.d7.below (hla _)) HFT.out.1 HFT.out.2 (by omega) (by omega) (by omega) H8.out).mono ?_
      intro e w2 hN
      rw [HOV.out] at hN
      obtain ⟨s, he, c1, f1, RB⟩ := bld_step R hp (hla _) hN
      unfold ptr at he
      subst he
      have HRB : Hid _ := RB
      clear RB hN k0 k1 k2 k3 k4 k5 k6 hD hD'
      go_wp2
      go_roundw
      case rel => exact ⟨p, _, by omega, by go_num, by rw [if_pos hp]; simp [ptr], HRB.out⟩
      case measure => simp [intOf]
    · obtain rfl : q = 0 := by omega
      go_wp2
      go_ret
      exact ⟨rfl, sb, R⟩
end Go.Proofs.Qxb6602244a
