/-
  THE WALK OF scanNumber (16).
-/
import Derived.Test.Qxb6602135aScan
namespace Go.Proofs.Qxb6602135a
open Go.ChangeShapes Go.WideShapes Go.ChangeAt Go.RowKit
open Plain (dg held run skip sgn ints frac expo)
set_option linter.unusedVariables false

theorem cat_data (a b : ByteArray) : a ++ b = ⟨(a.data.toList ++ b.data.toList).toArray⟩ := by
  apply ByteArray.ext
  apply Array.ext'
  simp

set_option maxHeartbeats 4000000 in
set_option maxRecDepth 100000 in
theorem scan_any (s : ByteArray) (w : World) (hs : s.size ≤ 1048576) :
    Calls Try.prog 16 #[.string s] w fun e w' => e = .returned (backN (Plain.scan (s.size + 2000) s.data.toList)) ∧ Below w.heap.size w w' := by
  go_enter Try.func16, Try.ntmps16
  go_upto_region 3 with fail
  go_cut [26] (fun v W => v = .bool (isAt s 0 45) ∧ W = W2 w false)
  case first => as_aux_lemma =>
    by_cases hp : 0 < s.size
    all_goals
      go_wp2
      go_meet
      case rel => exact ⟨by first | rw [isAt_in hp] | rw [isAt_out hp], rfl⟩
  case rest => as_aux_lemma =>
    obtain ⟨rfl, rfl⟩ := hcut
    go_upto_if 26 with fail
    generalize hb : isAt s 0 45 = ng
    have HB : Hid (isAt s 0 45 = ng) := hb
    clear hb
    go_cut [5] (fun v W => v = .int .i64 ((if ng then 1 else 0 : Nat) : Int) ∧ W = W2 w ng)
    case first => as_aux_lemma =>
      unfold W2
      cases ng
      all_goals
        go_wp2
        go_meet
        case rel => exact ⟨rfl, rfl⟩
    case rest => as_aux_lemma =>
      obtain ⟨rfl, rfl⟩ := hcut
      have HS : Hid _ := sgn_at s ng HB.out
      have hi1 : (if ng then 1 else 0 : Nat) ≤ s.size := by
        cases ng
        · simp
        · have := (isAt_yes (c := 45) HB.out).1; simp; omega
      generalize (if ng then 1 else 0 : Nat) = i at *
      have HC : Hid _ := scan_of (lim := s.size + 2000) HS.out
      clear HS HB
      go_upto_block 0 with fail
      go_cut [5] (fun v W => ∃ j : Nat, i ≤ j ∧ j ≤ s.size ∧ v = .int .i64 j ∧ ints (s.data.toList.drop i) = some ((s.data.toList.drop i).take (j - i), s.data.toList.drop j) ∧ W = W2 w ng)
      case first => as_aux_lemma =>
        unfold W2
        by_cases hi : i < s.size
        · rcases (show ((48 : Int) ≤ s[i].toNat ∧ (s[i].toNat : Int) ≤ 48) ∨ ((49 : Int) ≤ s[i].toNat ∧ (s[i].toNat : Int) ≤ 57) ∨ ((s[i].toNat : Int) < 48 ∨ 57 < (s[i].toNat : Int)) from by omega) with h | h | h
          · obtain ⟨h1, h2⟩ := h
            have HI : Hid _ := ints_zero hi h1 h2
            go_wp2
            go_meet
            case rel => exact ⟨i + 1, by omega, by omega, by go_num, HI.out, rfl⟩
          · obtain ⟨h1, h2⟩ := h
            have HI : Hid _ := ints_digs hi h1 h2
            have hg := Plain.skip_ge s i
            have hl := Plain.skip_le s i hi1
            go_wp2_with (go_at_call 18; refine (skip_any _ _ _ (by unfold maxLen; omega) (by omega) (by omega)).mono ?_; rintro e w' ⟨rfl, rfl⟩)
            go_meet
            case rel => exact ⟨skip s i, by omega, by omega, rfl, HI.out, rfl⟩
          · have HI : Hid _ := ints_not (s := s) (i := i) (fun _ => h)
            go_wp2
            all_goals
              exact bodyPost_ret (v := .tuple #[.agg #[.bool false, .string ⟨#[]⟩, .int .i64 0], .bool false]) (by simp [results, Try.results16, go_sem]) rfl ⟨by rw [HC.out, HI.out]; rfl, ((Below.refl _ _).alloc (Nat.le_refl _) _).alloc (by simp) _⟩
        · have HI : Hid _ := ints_not (s := s) (i := i) (fun q => absurd q hi)
          go_wp2
          all_goals
            exact bodyPost_ret (v := .tuple #[.agg #[.bool false, .string ⟨#[]⟩, .int .i64 0], .bool false]) (by simp [results, Try.results16, go_sem]) rfl ⟨by rw [HC.out, HI.out]; rfl, ((Below.refl _ _).alloc (Nat.le_refl _) _).alloc (by simp) _⟩
      case rest => as_aux_lemma =>
        obtain ⟨j, hij, hj, rfl, hints, rfl⟩ := hcut
        have HC2 : Hid (Plain.scan (s.size + 2000) s.data.toList = Plain.ftail (s.size + 2000) ng ((s.data.toList.drop i).take (j - i)) (frac (s.data.toList.drop j))) := by
          show _ = _
          rw [HC.out, hints]; rfl
        clear hints HC
        go_upto_region 14 with fail
        go_cut [78] (fun v W => v = .bool (isAt s j 46) ∧ W = W2 w ng)
        case first => as_aux_lemma =>
          by_cases hp : j < s.size
          all_goals
            go_wp2
            go_meet
            case rel => exact ⟨by first | rw [isAt_in hp] | rw [isAt_out hp], rfl⟩
        case rest => as_aux_lemma =>
          obtain ⟨rfl, rfl⟩ := hcut
          go_upto_if 78 with fail
          generalize hb : isAt s j 46 = pt
          have HB : Hid (isAt s j 46 = pt) := hb
          clear hb
          go_cut [5, 8] (fun v f W => ∃ (j2 : Nat) (fr : ByteArray), j ≤ j2 ∧ j2 ≤ s.size ∧ fr.size ≤ s.size ∧ v = .int .i64 j2 ∧ f = .string fr ∧ frac (s.data.toList.drop j) = some (fr.data.toList, s.data.toList.drop j2) ∧ W = W2 w ng)
          case first => as_aux_lemma =>
            cases pt
            · go_wp2
              go_meet
              case rel => exact ⟨j, ⟨#[]⟩, by omega, by omega, Nat.zero_le _, rfl, rfl, frac_no HB.out, rfl⟩
            · have hjl := (isAt_yes (c := 46) HB.out).1
              have hg := Plain.skip_ge s (j + 1)
              have hl := Plain.skip_le s (j + 1) (by omega)
              by_cases he : skip s (j + 1) = j + 1
              · have HF : Hid _ := frac_bad HB.out he
                have he' : (((skip s (j + 1) : Nat) : Int) == (j : Int) + 1) = true := by rw [beq_iff_eq]; omega
                clear he
                unfold W2
                go_wp2_with (go_at_call 18; refine (skip_any _ _ _ (by unfold maxLen; omega) (by omega) (by omega)).mono ?_; rintro e w' ⟨rfl, rfl⟩; rw [show ((j : Int) + 1).toNat = j + 1 from by omega])
                exact bodyPost_ret (v := .tuple #[.agg #[.bool false, .string ⟨#[]⟩, .int .i64 0], .bool false]) (by simp [results, Try.results16, go_sem]) rfl ⟨by rw [HC2.out, HF.out]; rfl, ((Below.refl _ _).alloc (Nat.le_refl _) _).alloc (by simp) _⟩
              · have HF : Hid _ := frac_yes HB.out he
                have he' : (((skip s (j + 1) : Nat) : Int) == (j : Int) + 1) = false := by rw [beq_eq_false_iff_ne]; omega
                clear he
                go_wp2_with (go_at_call 18; refine (skip_any _ _ _ (by unfold maxLen; omega) (by omega) (by omega)).mono ?_; rintro e w' ⟨rfl, rfl⟩; rw [show ((j : Int) + 1).toNat = j + 1 from by omega])
                go_meet
                case rel => exact ⟨skip s (j + 1), s.extract (j + 1) (skip s (j + 1)), by omega, by omega, by simp; omega, rfl, rfl, HF.out, rfl⟩
          case rest => as_aux_lemma =>
            obtain ⟨j2, fr, hj2, hj2', hfr, rfl, rfl, hfrac, rfl⟩ := hcut
            have HC3 : Hid (Plain.scan (s.size + 2000) s.data.toList = Plain.fin ng ((s.data.toList.drop i).take (j - i) ++ fr.data.toList) fr.data.toList.length (expo (s.size + 2000) (s.data.toList.drop j2))) := by
              show _ = _
              rw [HC2.out, hfrac]; rfl
            clear hfrac HC2 HB
            go_upto_region 21 with fail
            go_cut [109] (fun v W => v = .bool (isE s j2) ∧ W = W2 w ng)
            case first => as_aux_lemma =>
              by_cases hp : j2 < s.size
              · by_cases h1 : ((s[j2].toNat : Int) == 101) = true
                · go_wp2
                  go_meet
                  case rel => exact ⟨by (try unfold isE); rw [isAt_in hp, isAt_in hp, h1]; rfl, rfl⟩
                · have h1' : ((s[j2].toNat : Int) == 101) = false := by simpa using h1
                  clear h1
                  go_wp2
                  go_meet
                  case rel => exact ⟨by (try unfold isE); rw [isAt_in hp, isAt_in hp, h1']; rfl, rfl⟩
              · go_wp2
                go_meet
                case rel => exact ⟨by (try unfold isE); rw [isAt_out hp, isAt_out hp]; rfl, rfl⟩
            case rest => as_aux_lemma =>
              obtain ⟨rfl, rfl⟩ := hcut
              go_upto_if 109 with fail
              generalize hb : isE s j2 = mk
              have HB : Hid (isE s j2 = mk) := hb
              clear hb
              go_cut [5, 10] (fun v x W => ∃ (q2 : Nat) (e : Int), q2 ≤ s.size ∧ v = .int .i64 q2 ∧ x = .int .i64 e ∧ -((s.size : Int) + 2000) ≤ e ∧ e ≤ (s.size : Int) + 2000 ∧ expo (s.size + 2000) (s.data.toList.drop j2) = some (e, s.data.toList.drop q2) ∧ (W = W2 w ng ∨ ∃ es p, W = (W2 w ng).iter es p))
              case first => as_aux_lemma =>
                cases mk
                · go_wp2
                  go_meet
                  case rel => exact ⟨j2, 0, by omega, rfl, rfl, by omega, by omega, expo_no HB.out, .inl rfl⟩
                · have hj2l := isE_lt HB.out
                  have HX : Hid _ := expo_yes (lim := s.size + 2000) HB.out
                  go_upto_region 24 with fail
                  go_cut [127] (fun v W => v = .bool (isAt s (j2 + 1) 45 || isAt s (j2 + 1) 43) ∧ W = W2 w ng)
                  case first => as_aux_lemma =>
                    by_cases hp : j2 + 1 < s.size
                    · by_cases h1 : ((s[j2 + 1].toNat : Int) == 45) = true
                      · go_wp2
                        go_meet
                        case rel => exact ⟨by (try unfold isE); rw [isAt_in hp, isAt_in hp, h1]; rfl, rfl⟩
                      · have h1' : ((s[j2 + 1].toNat : Int) == 45) = false := by simpa using h1
                        clear h1
                        go_wp2
                        go_meet
                        case rel => exact ⟨by (try unfold isE); rw [isAt_in hp, isAt_in hp, h1']; rfl, rfl⟩
                    · go_wp2
                      go_meet
                      case rel => exact ⟨by (try unfold isE); rw [isAt_out hp, isAt_out hp]; rfl, rfl⟩
                  case rest => as_aux_lemma =>
                    obtain ⟨rfl, rfl⟩ := hcut
                    go_upto_if 127 with fail
                    generalize hb2 : (isAt s (j2 + 1) 45 || isAt s (j2 + 1) 43) = sg
                    have HB2 : Hid ((isAt s (j2 + 1) 45 || isAt s (j2 + 1) 43) = sg) := hb2
                    clear hb2
                    go_cut [5, 11] (fun v x W => ∃ (q : Nat) (en : Bool), q ≤ s.size ∧ v = .int .i64 q ∧ x = .bool en ∧ Plain.esgn (s.data.toList.drop (j2 + 1)) = (en, s.data.toList.drop q) ∧ W = W2 w ng)
                    case first => as_aux_lemma =>
                      cases sg
                      · go_wp2
                        go_meet
                        case rel => exact ⟨j2 + 1, false, by omega, by go_num, rfl, esgn_no HB2.out, rfl⟩
                      · obtain ⟨hp, hes⟩ := esgn_yes HB2.out
                        have HES : Hid _ := hes
                        clear hes
                        go_wp2
                        go_meet
                        case rel => exact ⟨j2 + 1 + 1, isAt s (j2 + 1) 45, by omega, by go_num, by rw [isAt_in hp], HES.out, rfl⟩
                    case rest => as_aux_lemma =>
                      obtain ⟨q, en, hq, rfl, rfl, hes, rfl⟩ := hcut
                      have HX2 : Hid (expo (s.size + 2000) (s.data.toList.drop j2) = Plain.edig (s.size + 2000) en (s.data.toList.drop q)) := by
                        show _ = _
                        rw [HX.out, hes]
                      clear hes HX HB HB2
                      have hg := Plain.skip_ge s q
                      have hl := Plain.skip_le s q hq
                      by_cases he : skip s q = q
                      · have HY : Hid _ := edig_bad (lim := s.size + 2000) (en := en) he
                        have he' : (((skip s q : Nat) : Int) == (q : Int)) = true := by rw [beq_iff_eq]; omega
                        clear he
                        unfold W2
                        go_wp2_with (go_at_call 18; refine (skip_any _ _ _ (by unfold maxLen; omega) (by omega) (by omega)).mono ?_; rintro e w' ⟨rfl, rfl⟩; rw [Int.toNat_natCast])
                        exact bodyPost_ret (v := .tuple #[.agg #[.bool false, .string ⟨#[]⟩, .int .i64 0], .bool false]) (by simp [results, Try.results16, go_sem]) rfl ⟨by rw [HC3.out, HX2.out, HY.out]; rfl, ((Below.refl _ _).alloc (Nat.le_refl _) _).alloc (by simp) _⟩
                      · have HY : Hid _ := edig_ok (lim := s.size + 2000) (en := en) he
                        have he' : (((skip s q : Nat) : Int) == (q : Int)) = false := by rw [beq_eq_false_iff_ne]; omega
                        clear he
                        have HD : Hid _ := ex_dg s q
                        have hes : (s.extract q (skip s q)).size ≤ s.size := by simp; omega
                        go_wp2_with (go_at_call 18; refine (skip_any _ _ _ (by unfold maxLen; omega) (by omega) (by omega)).mono ?_; rintro e w' ⟨rfl, rfl⟩; rw [Int.toNat_natCast])
                        generalize s.extract q (skip s q) = es at *
                        go_loopw [14] (fun v wr => ∃ p : Nat, p ≤ es.size ∧ v = .int .i64 (held (s.size + 2000) (es.data.toList.take p)) ∧ wr = (W2 w ng).iter es p) (fun _ wr => es.size - wr.iterPos (W2 w ng).heap.size)
                        case atStart => exact ⟨0, Nat.zero_le _, rfl, rfl⟩
                        case round =>
                          obtain ⟨p, hp, rfl, rfl⟩ := hrel
                          have hh := held_le (s.size + 2000) (es.data.toList.take p)
                          by_cases hlt : p < es.size
                          · obtain ⟨d1, d2⟩ := HD.out p hlt
                            have hnx : ∀ ty, (Instr.next (.pointer (some ⟨(W2 w ng).heap.size, 0, none⟩)) true ty).run Try.prog ((W2 w ng).iter es p) = _ := fun ty => run_next_ascii (W2 w ng) es p ty hlt (by omega)
                            have HV : Hid (held (s.size + 2000) (es.data.toList.take (p + 1)) = min (held (s.size + 2000) (es.data.toList.take p) * 10 + (es[p].toNat - 48)) (s.size + 2000)) := by
                              show _ = _
                              rw [take_snoc' es p hlt, held_snoc]
                            go_wp2
                            go_roundw
                            case rel => exact ⟨p + 1, by omega, by rw [HV.out]; go_num, rfl⟩
                            case measure => simp; omega
                          · have hnx : ∀ ty, (Instr.next (.pointer (some ⟨(W2 w ng).heap.size, 0, none⟩)) true ty).run Try.prog ((W2 w ng).iter es p) = _ := fun ty => run_next_end (W2 w ng) es p ty hlt
                            have HP : Hid (es.data.toList.take p = es.data.toList) := List.take_of_length_le (by simp; omega)
                            cases en
                            all_goals
                              go_wp2
                              go_meet
                              case rel => exact ⟨skip s q, _, hl, rfl, rfl, by omega, by omega, by rw [HX2.out, HY.out, HP.out]; simp [Plain.sig], .inr ⟨es, p, rfl⟩⟩
              case rest => as_aux_lemma =>
                obtain ⟨q2, e, hq2, rfl, rfl, he1, he2, hexpo, hW⟩ := hcut
                have HX : Hid _ := hexpo
                clear hexpo HB
                by_cases hend : q2 = s.size
                · have hend' : ((q2 : Int) != (s.size : Int)) = false := by simp [hend]
                  have HR : Hid (Plain.scan (s.size + 2000) s.data.toList = some (ng, (s.extract i j).data.toList ++ fr.data.toList, e - fr.size)) := by
                    show _ = _
                    rw [HC3.out, HX.out, Plain.drop_past s q2 (by omega), Lib.extract_data]
                    simp [Plain.fin]
                  clear hend HX HC3
                  have hsum : (s.extract i j).size + fr.size ≤ 9223372036854775807 := by simp; omega
                  have hadd := fun W => run_string_add_sum (P := Try.prog) W (s.extract i j) fr hsum
                  rcases hW with rfl | ⟨es, p, rfl⟩
                  all_goals
                    unfold W2
                    (try unfold World.iter)
                    go_wp2
                    exact bodyPost_ret (v := .tuple #[.agg #[.bool ng, .string (s.extract i j ++ fr), .int .i64 (e - fr.size)], .bool true]) (by simp [results, Try.results16, go_sem]) rfl ⟨by rw [HR.out]; simp only [backN]; rw [← cat_data], by repeat (first | exact Below.refl _ _ | refine Below.alloc ?_ (by simp <;> omega) _)⟩
                · have hend' : ((q2 : Int) != (s.size : Int)) = true := by simp; omega
                  have HR : Hid (Plain.scan (s.size + 2000) s.data.toList = none) := by
                    show _ = _
                    rw [HC3.out, HX.out, Plain.drop_at s q2 (by omega)]
                    rfl
                  clear hend HX HC3
                  rcases hW with rfl | ⟨es, p, rfl⟩
                  all_goals
                    unfold W2
                    (try unfold World.iter)
                    go_wp2
                    exact bodyPost_ret (v := .tuple #[.agg #[.bool false, .string ⟨#[]⟩, .int .i64 0], .bool false]) (by simp [results, Try.results16, go_sem]) rfl ⟨by rw [HR.out]; rfl, by repeat (first | exact Below.refl _ _ | refine Below.alloc ?_ (by simp <;> omega) _)⟩
end Go.Proofs.Qxb6602135a
