/-
  THE WALK OF scanByAutomatonQb1 (9): the loop.
-/
import Derived.Test.Qxb6602135aAuto
namespace Go.Proofs.Qxb6602135a
open Go.ChangeShapes Go.WideShapes Go.ChangeAt Go.RowKit
open Plain (St runs Ok dg cap7 held)
set_option linter.unusedVariables false

set_option maxHeartbeats 8000000 in
set_option maxRecDepth 100000 in
theorem auto_any (s : ByteArray) (w : World) (hs : s.size ≤ 1048576) :
    Calls Try.prog 9 #[.string s] w fun e w' => e = .returned (back4 (Plain.auto (s.size + 2000) s.data.toList)) ∧ Below w.heap.size w w' := by
  go_enter Try.func9, Try.ntmps9
  go_wp2
  go_loopw [6, 7, 8, 9, 10, 11, 12] (fun s6 s7 s8 vb ve s11 s12 wr => ∃ (k : Nat) (x : St), k ≤ s.size ∧ s6 = .int .i64 x.st ∧ s7 = .bool x.ng ∧ s8 = .bool x.en ∧ s11 = .int .i64 x.fr ∧ s12 = .int .i64 k ∧ Rel s w k x vb ve wr)
    (fun _ _ _ _ _ _ s12 _ => s.size - (intOf s12).toNat)
  case atStart => exact ⟨0, Plain.start, Nat.zero_le _, rfl, rfl, rfl, rfl, rfl, rel_start s w⟩
  case round =>
    obtain ⟨k, x, hk, rfl, rfl, rfl, rfl, rfl, R⟩ := hrel
    by_cases hlt : k < s.size
    · obtain ⟨st, ng, en, b, ed, f⟩ := x
      have hst : st ≤ 8 := R.ok.st
      have hst' : st = 0 ∨ st = 1 ∨ st = 2 ∨ st = 3 ∨ st = 4 ∨ st = 5 ∨ st = 6 ∨ st = 7 ∨ st = 8 := by omega
      have hlb : b.length ≤ k := R.ok.lb
      have hle : ed.length ≤ k := R.ok.le
      have hlf : f ≤ k := R.ok.lf
      rcases hst' with rfl | rfl | rfl | rfl | rfl | rfl | rfl | rfl | rfl
      · clear hst
        rcases (show (45 ≤ (s[k].toNat : Int) ∧ (s[k].toNat : Int) ≤ 45) ∨ (48 ≤ (s[k].toNat : Int) ∧ (s[k].toNat : Int) ≤ 48) ∨ (49 ≤ (s[k].toNat : Int) ∧ (s[k].toNat : Int) ≤ 57) ∨ (((s[k].toNat : Int) < 45 ∨ 45 < (s[k].toNat : Int)) ∧ ((s[k].toNat : Int) < 48 ∨ 57 < (s[k].toNat : Int))) from by omega) with h | h | h | h
        · have HS : Hid (Plain.step ⟨0, ng, en, b, ed, f⟩ s[k] = some ⟨1, true, en, b, ed, f⟩) := st0_0 h
          obtain ⟨h1, h2⟩ := h
          have HR : Hid _ := rel_move R hlt HS.out rfl rfl (by simp)
          go_wp2
          all_goals
            go_roundw
            case rel => exact ⟨k + 1, _, by omega, rfl, rfl, rfl, rfl, by go_num, HR.out⟩
            case measure => simp [intOf]; omega
        · have HS : Hid (Plain.step ⟨0, ng, en, b, ed, f⟩ s[k] = some ⟨2, ng, en, b ++ [s[k]], ed, f⟩) := st0_1 h
          obtain ⟨h1, h2⟩ := h
          go_wp2_with (at_builtin; refine push8 rfl _ _ rfl w.heap.size u9 b s[k] rfl rfl R.ownb (by omega) R.bel.size ?_; intro v' w1 ho hg)
          have HR : Hid _ := rel_body R hlt HS.out rfl rfl (by simp) ho hg
          clear ho hg
          go_wp2
          go_roundw
          case rel => exact ⟨k + 1, _, by omega, rfl, rfl, rfl, by go_num, by go_num, HR.out⟩
          case measure => simp [intOf]; omega
        · have HS : Hid (Plain.step ⟨0, ng, en, b, ed, f⟩ s[k] = some ⟨3, ng, en, b ++ [s[k]], ed, f⟩) := st0_2 h
          obtain ⟨h1, h2⟩ := h
          go_wp2_with (at_builtin; refine push8 rfl _ _ rfl w.heap.size u9 b s[k] rfl rfl R.ownb (by omega) R.bel.size ?_; intro v' w1 ho hg)
          have HR : Hid _ := rel_body R hlt HS.out rfl rfl (by simp) ho hg
          clear ho hg
          go_wp2
          go_roundw
          case rel => exact ⟨k + 1, _, by omega, rfl, rfl, rfl, by go_num, by go_num, HR.out⟩
          case measure => simp [intOf]; omega
        · have HS : Hid (Plain.step ⟨0, ng, en, b, ed, f⟩ s[k] = none) := st0_3 h
          obtain ⟨h1, h2⟩ := h
          have HN : Hid _ := auto_none (s.size + 2000) R hlt HS.out
          go_wp2
          all_goals
            (try simp only [Exit.inBlock, Exit.then])
            refine bodyPost_ret (results_tmp4 rfl _ _ _) rfl ?_
            exact ⟨by rw [HN.out]; rfl, R.bel⟩
      · clear hst
        rcases (show (48 ≤ (s[k].toNat : Int) ∧ (s[k].toNat : Int) ≤ 48) ∨ (49 ≤ (s[k].toNat : Int) ∧ (s[k].toNat : Int) ≤ 57) ∨ (((s[k].toNat : Int) < 48 ∨ 57 < (s[k].toNat : Int))) from by omega) with h | h | h
        · have HS : Hid (Plain.step ⟨1, ng, en, b, ed, f⟩ s[k] = some ⟨2, ng, en, b ++ [s[k]], ed, f⟩) := st1_0 h
          obtain ⟨h1, h2⟩ := h
          go_wp2_with (at_builtin; refine push8 rfl _ _ rfl w.heap.size u9 b s[k] rfl rfl R.ownb (by omega) R.bel.size ?_; intro v' w1 ho hg)
          have HR : Hid _ := rel_body R hlt HS.out rfl rfl (by simp) ho hg
          clear ho hg
          go_wp2
          go_roundw
          case rel => exact ⟨k + 1, _, by omega, rfl, rfl, rfl, by go_num, by go_num, HR.out⟩
          case measure => simp [intOf]; omega
        · have HS : Hid (Plain.step ⟨1, ng, en, b, ed, f⟩ s[k] = some ⟨3, ng, en, b ++ [s[k]], ed, f⟩) := st1_1 h
          obtain ⟨h1, h2⟩ := h
          go_wp2_with (at_builtin; refine push8 rfl _ _ rfl w.heap.size u9 b s[k] rfl rfl R.ownb (by omega) R.bel.size ?_; intro v' w1 ho hg)
          have HR : Hid _ := rel_body R hlt HS.out rfl rfl (by simp) ho hg
          clear ho hg
          go_wp2
          go_roundw
          case rel => exact ⟨k + 1, _, by omega, rfl, rfl, rfl, by go_num, by go_num, HR.out⟩
          case measure => simp [intOf]; omega
        · have HS : Hid (Plain.step ⟨1, ng, en, b, ed, f⟩ s[k] = none) := st1_2 h
          have HN : Hid _ := auto_none (s.size + 2000) R hlt HS.out
          go_wp2
          all_goals
            (try simp only [Exit.inBlock, Exit.then])
            refine bodyPost_ret (results_tmp4 rfl _ _ _) rfl ?_
            exact ⟨by rw [HN.out]; rfl, R.bel⟩
      · clear hst
        rcases (show (46 ≤ (s[k].toNat : Int) ∧ (s[k].toNat : Int) ≤ 46) ∨ (101 ≤ (s[k].toNat : Int) ∧ (s[k].toNat : Int) ≤ 101) ∨ (69 ≤ (s[k].toNat : Int) ∧ (s[k].toNat : Int) ≤ 69) ∨ (((s[k].toNat : Int) < 46 ∨ 46 < (s[k].toNat : Int)) ∧ ((s[k].toNat : Int) < 101 ∨ 101 < (s[k].toNat : Int)) ∧ ((s[k].toNat : Int) < 69 ∨ 69 < (s[k].toNat : Int))) from by omega) with h | h | h | h
        · have HS : Hid (Plain.step ⟨2, ng, en, b, ed, f⟩ s[k] = some ⟨4, ng, en, b, ed, f⟩) := st2_0 h
          obtain ⟨h1, h2⟩ := h
          have e1 : ((s[k].toNat : Int) == 101) = false := by rw [beq_eq_false_iff_ne]; omega
          have e2 : ((s[k].toNat : Int) == 69) = false := by rw [beq_eq_false_iff_ne]; omega
          have HR : Hid _ := rel_move R hlt HS.out rfl rfl (by simp)
          go_wp2
          all_goals
            go_roundw
            case rel => exact ⟨k + 1, _, by omega, rfl, rfl, rfl, rfl, by go_num, HR.out⟩
            case measure => simp [intOf]; omega
        · have HS : Hid (Plain.step ⟨2, ng, en, b, ed, f⟩ s[k] = some ⟨6, ng, en, b, ed, f⟩) := st2_1 h
          obtain ⟨h1, h2⟩ := h
          have HR : Hid _ := rel_move R hlt HS.out rfl rfl (by simp)
          go_wp2
          all_goals
            go_roundw
            case rel => exact ⟨k + 1, _, by omega, rfl, rfl, rfl, rfl, by go_num, HR.out⟩
            case measure => simp [intOf]; omega
        · have HS : Hid (Plain.step ⟨2, ng, en, b, ed, f⟩ s[k] = some ⟨6, ng, en, b, ed, f⟩) := st2_2 h
          obtain ⟨h1, h2⟩ := h
          have e1 : ((s[k].toNat : Int) == 101) = false := by rw [beq_eq_false_iff_ne]; omega
          have e2 : ((s[k].toNat : Int) == 69) = true := by rw [beq_iff_eq]; omega
          have HR : Hid _ := rel_move R hlt HS.out rfl rfl (by simp)
          go_wp2
          all_goals
            go_roundw
            case rel => exact ⟨k + 1, _, by omega, rfl, rfl, rfl, rfl, by go_num, HR.out⟩
            case measure => simp [intOf]; omega
        · have HS : Hid (Plain.step ⟨2, ng, en, b, ed, f⟩ s[k] = none) := st2_3 h
          obtain ⟨h1, h2, h3⟩ := h
          have e1 : ((s[k].toNat : Int) == 101) = false := by rw [beq_eq_false_iff_ne]; omega
          have e2 : ((s[k].toNat : Int) == 69) = false := by rw [beq_eq_false_iff_ne]; omega
          have HN : Hid _ := auto_none (s.size + 2000) R hlt HS.out
          go_wp2
          all_goals
            (try simp only [Exit.inBlock, Exit.then])
            refine bodyPost_ret (results_tmp4 rfl _ _ _) rfl ?_
            exact ⟨by rw [HN.out]; rfl, R.bel⟩
      · clear hst
        rcases (show (48 ≤ (s[k].toNat : Int) ∧ (s[k].toNat : Int) ≤ 57) ∨ (46 ≤ (s[k].toNat : Int) ∧ (s[k].toNat : Int) ≤ 46) ∨ (101 ≤ (s[k].toNat : Int) ∧ (s[k].toNat : Int) ≤ 101) ∨ (69 ≤ (s[k].toNat : Int) ∧ (s[k].toNat : Int) ≤ 69) ∨ (((s[k].toNat : Int) < 48 ∨ 57 < (s[k].toNat : Int)) ∧ ((s[k].toNat : Int) < 46 ∨ 46 < (s[k].toNat : Int)) ∧ ((s[k].toNat : Int) < 101 ∨ 101 < (s[k].toNat : Int)) ∧ ((s[k].toNat : Int) < 69 ∨ 69 < (s[k].toNat : Int))) from by omega) with h | h | h | h | h
        · have HS : Hid (Plain.step ⟨3, ng, en, b, ed, f⟩ s[k] = some ⟨3, ng, en, b ++ [s[k]], ed, f⟩) := st3_0 h
          obtain ⟨h1, h2⟩ := h
          have e1 : ((s[k].toNat : Int) == 101) = false := by rw [beq_eq_false_iff_ne]; omega
          have e2 : ((s[k].toNat : Int) == 69) = false := by rw [beq_eq_false_iff_ne]; omega
          go_wp2_with (at_builtin; refine push8 rfl _ _ rfl w.heap.size u9 b s[k] rfl rfl R.ownb (by omega) R.bel.size ?_; intro v' w1 ho hg)
          have HR : Hid _ := rel_body R hlt HS.out rfl rfl (by simp) ho hg
          clear ho hg
          go_wp2
          go_roundw
          case rel => exact ⟨k + 1, _, by omega, rfl, rfl, rfl, by go_num, by go_num, HR.out⟩
          case measure => simp [intOf]; omega
        · have HS : Hid (Plain.step ⟨3, ng, en, b, ed, f⟩ s[k] = some ⟨4, ng, en, b, ed, f⟩) := st3_1 h
          obtain ⟨h1, h2⟩ := h
          have e1 : ((s[k].toNat : Int) == 101) = false := by rw [beq_eq_false_iff_ne]; omega
          have e2 : ((s[k].toNat : Int) == 69) = false := by rw [beq_eq_false_iff_ne]; omega
          have HR : Hid _ := rel_move R hlt HS.out rfl rfl (by simp)
          go_wp2
          all_goals
            go_roundw
            case rel => exact ⟨k + 1, _, by omega, rfl, rfl, rfl, rfl, by go_num, HR.out⟩
            case measure => simp [intOf]; omega
        · have HS : Hid (Plain.step ⟨3, ng, en, b, ed, f⟩ s[k] = some ⟨6, ng, en, b, ed, f⟩) := st3_2 h
          obtain ⟨h1, h2⟩ := h
          have HR : Hid _ := rel_move R hlt HS.out rfl rfl (by simp)
          go_wp2
          all_goals
            go_roundw
            case rel => exact ⟨k + 1, _, by omega, rfl, rfl, rfl, rfl, by go_num, HR.out⟩
            case measure => simp [intOf]; omega
        · have HS : Hid (Plain.step ⟨3, ng, en, b, ed, f⟩ s[k] = some ⟨6, ng, en, b, ed, f⟩) := st3_3 h
          obtain ⟨h1, h2⟩ := h
          have e1 : ((s[k].toNat : Int) == 101) = false := by rw [beq_eq_false_iff_ne]; omega
          have e2 : ((s[k].toNat : Int) == 69) = true := by rw [beq_iff_eq]; omega
          have HR : Hid _ := rel_move R hlt HS.out rfl rfl (by simp)
          go_wp2
          all_goals
            go_roundw
            case rel => exact ⟨k + 1, _, by omega, rfl, rfl, rfl, rfl, by go_num, HR.out⟩
            case measure => simp [intOf]; omega
        · have HS : Hid (Plain.step ⟨3, ng, en, b, ed, f⟩ s[k] = none) := st3_4 h
          obtain ⟨h1, h2, h3, h4⟩ := h
          have e1 : ((s[k].toNat : Int) == 101) = false := by rw [beq_eq_false_iff_ne]; omega
          have e2 : ((s[k].toNat : Int) == 69) = false := by rw [beq_eq_false_iff_ne]; omega
          have HN : Hid _ := auto_none (s.size + 2000) R hlt HS.out
          go_wp2
          all_goals
            (try simp only [Exit.inBlock, Exit.then])
            refine bodyPost_ret (results_tmp4 rfl _ _ _) rfl ?_
            exact ⟨by rw [HN.out]; rfl, R.bel⟩
      · clear hst
        rcases (show (48 ≤ (s[k].toNat : Int) ∧ (s[k].toNat : Int) ≤ 57) ∨ (((s[k].toNat : Int) < 48 ∨ 57 < (s[k].toNat : Int))) from by omega) with h | h
        · have HS : Hid (Plain.step ⟨4, ng, en, b, ed, f⟩ s[k] = some ⟨5, ng, en, b ++ [s[k]], ed, f + 1⟩) := st4_0 h
          obtain ⟨h1, h2⟩ := h
          go_wp2_with (at_builtin; refine push8 rfl _ _ rfl w.heap.size u9 b s[k] rfl rfl R.ownb (by omega) R.bel.size ?_; intro v' w1 ho hg)
          have HR : Hid _ := rel_body R hlt HS.out rfl rfl (by simp) ho hg
          clear ho hg
          go_wp2
          go_roundw
          case rel => exact ⟨k + 1, _, by omega, rfl, rfl, rfl, by go_num, by go_num, HR.out⟩
          case measure => simp [intOf]; omega
        · have HS : Hid (Plain.step ⟨4, ng, en, b, ed, f⟩ s[k] = none) := st4_1 h
          have HN : Hid _ := auto_none (s.size + 2000) R hlt HS.out
          go_wp2
          all_goals
            (try simp only [Exit.inBlock, Exit.then])
            refine bodyPost_ret (results_tmp4 rfl _ _ _) rfl ?_
            exact ⟨by rw [HN.out]; rfl, R.bel⟩
      · clear hst
        rcases (show (48 ≤ (s[k].toNat : Int) ∧ (s[k].toNat : Int) ≤ 57) ∨ (101 ≤ (s[k].toNat : Int) ∧ (s[k].toNat : Int) ≤ 101) ∨ (69 ≤ (s[k].toNat : Int) ∧ (s[k].toNat : Int) ≤ 69) ∨ (((s[k].toNat : Int) < 48 ∨ 57 < (s[k].toNat : Int)) ∧ ((s[k].toNat : Int) < 101 ∨ 101 < (s[k].toNat : Int)) ∧ ((s[k].toNat : Int) < 69 ∨ 69 < (s[k].toNat : Int))) from by omega) with h | h | h | h
        · have HS : Hid (Plain.step ⟨5, ng, en, b, ed, f⟩ s[k] = some ⟨5, ng, en, b ++ [s[k]], ed, f + 1⟩) := st5_0 h
          obtain ⟨h1, h2⟩ := h
          have e1 : ((s[k].toNat : Int) == 101) = false := by rw [beq_eq_false_iff_ne]; omega
          have e2 : ((s[k].toNat : Int) == 69) = false := by rw [beq_eq_false_iff_ne]; omega
          go_wp2_with (at_builtin; refine push8 rfl _ _ rfl w.heap.size u9 b s[k] rfl rfl R.ownb (by omega) R.bel.size ?_; intro v' w1 ho hg)
          have HR : Hid _ := rel_body R hlt HS.out rfl rfl (by simp) ho hg
          clear ho hg
          go_wp2
          go_roundw
          case rel => exact ⟨k + 1, _, by omega, rfl, rfl, rfl, by go_num, by go_num, HR.out⟩
          case measure => simp [intOf]; omega
        · have HS : Hid (Plain.step ⟨5, ng, en, b, ed, f⟩ s[k] = some ⟨6, ng, en, b, ed, f⟩) := st5_1 h
          obtain ⟨h1, h2⟩ := h
          have HR : Hid _ := rel_move R hlt HS.out rfl rfl (by simp)
          go_wp2
          all_goals
            go_roundw
            case rel => exact ⟨k + 1, _, by omega, rfl, rfl, rfl, rfl, by go_num, HR.out⟩
            case measure => simp [intOf]; omega
        · have HS : Hid (Plain.step ⟨5, ng, en, b, ed, f⟩ s[k] = some ⟨6, ng, en, b, ed, f⟩) := st5_2 h
          obtain ⟨h1, h2⟩ := h
          have e1 : ((s[k].toNat : Int) == 101) = false := by rw [beq_eq_false_iff_ne]; omega
          have e2 : ((s[k].toNat : Int) == 69) = true := by rw [beq_iff_eq]; omega
          have HR : Hid _ := rel_move R hlt HS.out rfl rfl (by simp)
          go_wp2
          all_goals
            go_roundw
            case rel => exact ⟨k + 1, _, by omega, rfl, rfl, rfl, rfl, by go_num, HR.out⟩
            case measure => simp [intOf]; omega
        · have HS : Hid (Plain.step ⟨5, ng, en, b, ed, f⟩ s[k] = none) := st5_3 h
          obtain ⟨h1, h2, h3⟩ := h
          have e1 : ((s[k].toNat : Int) == 101) = false := by rw [beq_eq_false_iff_ne]; omega
          have e2 : ((s[k].toNat : Int) == 69) = false := by rw [beq_eq_false_iff_ne]; omega
          have HN : Hid _ := auto_none (s.size + 2000) R hlt HS.out
          go_wp2
          all_goals
            (try simp only [Exit.inBlock, Exit.then])
            refine bodyPost_ret (results_tmp4 rfl _ _ _) rfl ?_
            exact ⟨by rw [HN.out]; rfl, R.bel⟩
      · clear hst
        rcases (show (43 ≤ (s[k].toNat : Int) ∧ (s[k].toNat : Int) ≤ 43) ∨ (45 ≤ (s[k].toNat : Int) ∧ (s[k].toNat : Int) ≤ 45) ∨ (48 ≤ (s[k].toNat : Int) ∧ (s[k].toNat : Int) ≤ 57) ∨ (((s[k].toNat : Int) < 43 ∨ 43 < (s[k].toNat : Int)) ∧ ((s[k].toNat : Int) < 45 ∨ 45 < (s[k].toNat : Int)) ∧ ((s[k].toNat : Int) < 48 ∨ 57 < (s[k].toNat : Int))) from by omega) with h | h | h | h
        · have HS : Hid (Plain.step ⟨6, ng, en, b, ed, f⟩ s[k] = some ⟨7, ng, en, b, ed, f⟩) := st6_0 h
          obtain ⟨h1, h2⟩ := h
          have HR : Hid _ := rel_move R hlt HS.out rfl rfl (by simp)
          go_wp2
          all_goals
            go_roundw
            case rel => exact ⟨k + 1, _, by omega, rfl, rfl, rfl, rfl, by go_num, HR.out⟩
            case measure => simp [intOf]; omega
        · have HS : Hid (Plain.step ⟨6, ng, en, b, ed, f⟩ s[k] = some ⟨7, ng, true, b, ed, f⟩) := st6_1 h
          obtain ⟨h1, h2⟩ := h
          have HR : Hid _ := rel_move R hlt HS.out rfl rfl (by simp)
          go_wp2
          all_goals
            go_roundw
            case rel => exact ⟨k + 1, _, by omega, rfl, rfl, rfl, rfl, by go_num, HR.out⟩
            case measure => simp [intOf]; omega
        · have HS : Hid (Plain.step ⟨6, ng, en, b, ed, f⟩ s[k] = some ⟨8, ng, en, b, ed ++ [s[k]], f⟩) := st6_2 h
          obtain ⟨h1, h2⟩ := h
          obtain ⟨B, hB1, hB2, hB3, hoe⟩ := R.owne
          have HB : Hid _ := hB3
          clear hB3
          go_wp2_with (at_builtin; refine push8 rfl _ _ rfl B u10 ed s[k] rfl rfl hoe (by omega) hB2 ?_; intro v' w1 ho hg)
          have HR : Hid _ := rel_exp R hlt HS.out rfl rfl rfl hB1 hB2 HB.out hoe ho hg
          clear ho hg
          go_wp2
          go_roundw
          case rel => exact ⟨k + 1, _, by omega, rfl, rfl, rfl, by go_num, by go_num, HR.out⟩
          case measure => simp [intOf]; omega
        · have HS : Hid (Plain.step ⟨6, ng, en, b, ed, f⟩ s[k] = none) := st6_3 h
          obtain ⟨h1, h2, h3⟩ := h
          have HN : Hid _ := auto_none (s.size + 2000) R hlt HS.out
          go_wp2
          all_goals
            (try simp only [Exit.inBlock, Exit.then])
            refine bodyPost_ret (results_tmp4 rfl _ _ _) rfl ?_
            exact ⟨by rw [HN.out]; rfl, R.bel⟩
      · clear hst
        rcases (show (48 ≤ (s[k].toNat : Int) ∧ (s[k].toNat : Int) ≤ 57) ∨ (((s[k].toNat : Int) < 48 ∨ 57 < (s[k].toNat : Int))) from by omega) with h | h
        · have HS : Hid (Plain.step ⟨7, ng, en, b, ed, f⟩ s[k] = some ⟨8, ng, en, b, ed ++ [s[k]], f⟩) := st7_0 h
          obtain ⟨h1, h2⟩ := h
          obtain ⟨B, hB1, hB2, hB3, hoe⟩ := R.owne
          have HB : Hid _ := hB3
          clear hB3
          go_wp2_with (at_builtin; refine push8 rfl _ _ rfl B u10 ed s[k] rfl rfl hoe (by omega) hB2 ?_; intro v' w1 ho hg)
          have HR : Hid _ := rel_exp R hlt HS.out rfl rfl rfl hB1 hB2 HB.out hoe ho hg
          clear ho hg
          go_wp2
          go_roundw
          case rel => exact ⟨k + 1, _, by omega, rfl, rfl, rfl, by go_num, by go_num, HR.out⟩
          case measure => simp [intOf]; omega
        · have HS : Hid (Plain.step ⟨7, ng, en, b, ed, f⟩ s[k] = none) := st7_1 h
          have HN : Hid _ := auto_none (s.size + 2000) R hlt HS.out
          go_wp2
          all_goals
            (try simp only [Exit.inBlock, Exit.then])
            refine bodyPost_ret (results_tmp4 rfl _ _ _) rfl ?_
            exact ⟨by rw [HN.out]; rfl, R.bel⟩
      · clear hst
        rcases (show (48 ≤ (s[k].toNat : Int) ∧ (s[k].toNat : Int) ≤ 57) ∨ (((s[k].toNat : Int) < 48 ∨ 57 < (s[k].toNat : Int))) from by omega) with h | h
        · have HS : Hid (Plain.step ⟨8, ng, en, b, ed, f⟩ s[k] = some ⟨8, ng, en, b, ed ++ [s[k]], f⟩) := st8_0 h
          obtain ⟨h1, h2⟩ := h
          obtain ⟨B, hB1, hB2, hB3, hoe⟩ := R.owne
          have HB : Hid _ := hB3
          clear hB3
          go_wp2_with (at_builtin; refine push8 rfl _ _ rfl B u10 ed s[k] rfl rfl hoe (by omega) hB2 ?_; intro v' w1 ho hg)
          have HR : Hid _ := rel_exp R hlt HS.out rfl rfl rfl hB1 hB2 HB.out hoe ho hg
          clear ho hg
          go_wp2
          go_roundw
          case rel => exact ⟨k + 1, _, by omega, rfl, rfl, rfl, by go_num, by go_num, HR.out⟩
          case measure => simp [intOf]; omega
        · have HS : Hid (Plain.step ⟨8, ng, en, b, ed, f⟩ s[k] = none) := st8_1 h
          have HN : Hid _ := auto_none (s.size + 2000) R hlt HS.out
          go_wp2
          all_goals
            (try simp only [Exit.inBlock, Exit.then])
            refine bodyPost_ret (results_tmp4 rfl _ _ _) rfl ?_
            exact ⟨by rw [HN.out]; rfl, R.bel⟩
    · obtain ⟨st, ng, en, b, ed, f⟩ := x
      have hst : st ≤ 8 := R.ok.st
      have HL : Hid (cap7 (s.size + 2000) ed = held (s.size + 2000) ed) := Plain.cap7_held (s.size + 2000) (by omega) ed R.ok.ed
      have hle : ed.length ≤ k := R.ok.le
      have hlf : f ≤ k := R.ok.lf
      obtain ⟨B, hB1, hB2, hB3, hoe⟩ := R.owne
      clear hB3
      have hcv := conv_body wr.drew _ _ _ (ownsRow_drew R.ownb)
      have hcb : cap7 (s.size + 2000) ed ≤ s.size + 2000 := by unfold cap7; split <;> omega
      have HE : Hid _ := rel_end (s.size + 2000) R (by omega)
      have HO : Hid (∀ c ∈ ed, dg c = true) := R.ok.ed
      have hst' : (st = 2 ∨ st = 3 ∨ st = 5 ∨ st = 8) ∨ (st = 0 ∨ st = 1 ∨ st = 4 ∨ st = 6 ∨ st = 7) := by omega
      rcases hst' with hst' | hst'
      · have HN : Hid (Plain.ends (s.size + 2000) ⟨st, ng, en, b, ed, f⟩ = some (ng, b, Plain.sig en (held (s.size + 2000) ed) - f)) := by
          show _ = _
          unfold Plain.ends
          rw [if_pos (by simp only; omega)]
        cases en <;> rcases hst' with rfl | rfl | rfl | rfl
        all_goals
          go_wp2_with (go_at_call 17; refine (cap_ownI ed B _ (s.size + 2000) _ _ HO.out (by omega) (by omega) (by omega) hoe).mono ?_; rintro e w' ⟨rfl, rfl⟩)
          go_region
          go_wp2
          (try simp only [Exit.inBlock, Exit.then])
          refine bodyPost_ret (results_tmp4 rfl _ _ _) rfl ?_
          exact ⟨by rw [HE.out, HN.out, ← HL.out]; simp [back4, Plain.sig], R.bel.drew⟩
      · have HN : Hid (Plain.ends (s.size + 2000) ⟨st, ng, en, b, ed, f⟩ = none) := by
          show _ = _
          unfold Plain.ends
          rw [if_neg (by simp only; omega)]
        rcases hst' with rfl | rfl | rfl | rfl | rfl
        all_goals
          go_wp2
          (try simp only [Exit.inBlock, Exit.then])
          refine bodyPost_ret (results_tmp4 rfl _ _ _) rfl ?_
          exact ⟨by rw [HE.out, HN.out]; rfl, R.bel⟩

end Go.Proofs.Qxb6602135a
