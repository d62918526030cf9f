/-
  FnLookupMatchesChainModel (4): the walk.
-/
import Derived.Test.Qxb6602244aLaw1
namespace Go.Proofs.Qxb6602244a
open Go.ChangeShapes Go.WideShapes Go.ChangeAt Go.RowKit
set_option linter.unusedVariables false

set_option maxHeartbeats 8000000 in
set_option maxRecDepth 100000 in
theorem law_any (a : Option Addr) (fs : List Fr) (cap : Nat) (name : ByteArray) (w : World) (hF : Frames w a fs) (hnm : name.size ≤ 9223372036854775807) (K : Nat) (hK : Fst fs name K) :
    Calls Try.prog 4 #[.slice a fs.length cap, .string name] w fun e w' => e = .returned (.bool true) ∧ Below w.heap.size w w' := by
  have hln := hF.len
  go_enter Try.func4, Try.ntmps4
  go_wp2_with fail
  refine (zzb15_any a fs cap name _ hF hnm).mono ?_
  rintro e w1 ⟨⟨b, rfl⟩, rfl⟩
  cases b with
  | false =>
    go_wp2
    go_ret
    exact ⟨rfl, Below.refl _ _⟩
  | true =>
    go_wp2_with fail
    refine (framesBytes_any a fs cap _ hF).mono ?_
    rintro e w2 ⟨⟨r, rfl, r0, r1, hr⟩, L2⟩
    have HR : Hid _ := hr
    clear hr
    go_wp2_with fail
    refine (plus_any _ _ _ r0 r1 (by omega) (by omega)).mono ?_
    rintro e w3 ⟨⟨r', rfl, q0, q1, hq⟩, rfl⟩
    have HQ : Hid _ := hq
    clear hq
    by_cases hbig : 1048576 < r'
    · go_wp2
      go_ret
      exact ⟨rfl, L2⟩
    · have hrr := HQ.out (by omega)
      obtain ⟨hn, hgood⟩ := HR.out (by omega)
      have HGD : Hid _ := hgood
      have F2 := hF.below L2
      clear hrr hgood HQ HR
      go_wp2_with fail
      refine (fit_any a fs cap _ F2).mono ?_
      rintro e w4 ⟨rfl, k4, hw4⟩
      have L4 : Below w1.heap.size w1 w4 := by rw [hw4]; exact ⟨L2.os, L2.tape, L2.output, L2.size, L2.block⟩
      clear hw4
      cases hfit : fs.all fits with
      | false =>
        clear hfit
        go_wp2
        go_ret
        exact ⟨rfl, L4⟩
      | true =>
        have HFT : Hid _ := hfit
        have F4 := hF.below L4
        clear hfit F2 L2
        go_wp2_with fail
        refine (build_any a fs cap _ F4 hn HGD.out HFT.out).mono ?_
        rintro e w5 ⟨rfl, sb, RB⟩
        obtain ⟨ab, wm, rb, hC⟩ := RB.ch
        have hB : w4.heap.size ≤ w5.heap.size := RB.bel.size
        have HRS : Hid (∀ i, i < fs.length → (rs0 fs i).length ≤ 1048576) := by
          intro i hi
          unfold rs0
          rw [dif_pos hi]
          obtain ⟨_, _, _, g6, _⟩ := HGD.out fs[i] (List.getElem_mem hi)
          simp; omega
        have HFA : Hid (∀ f ∈ fs, fits f = true) := fun f hf => List.all_eq_true.1 HFT.out f hf
        have hs0 : 0 < fs.length → w5.cell? ⟨w4.heap.size, 0, none⟩ = some (.pointer (some ⟨sb 0, 0, none⟩)) := fun hp => by
          rw [cell_at RB.row, ptrs_at _ _ _ _ hp, if_pos (Nat.zero_le _)]; rfl
        have HS0 : Hid _ := hs0
        have hKl := hK.le
        clear hs0
        by_cases hp : 0 < fs.length
        · have hc0 := HS0.out hp
          go_wp2_with fail
          rw [← pp_in (sb := sb) hp]
          refine (zzlookup_any hC name K hK HRS.out hB).mono ?_
          intro e w6 hP
          obtain ⟨lv, rfl, hlv, RL⟩ := hP
          have S := ls_of hF L4 RB RL HGD.out HFA.out
          have HLV : Hid _ := hlv
          clear hlv RL hc0 HS0 HRS hC F4
          rw [pp_in (sb := sb) hp]
          go_wp2
          go_loop [8, 9] (fun kk j => ∃ i : Nat, i ≤ K ∧ i ≤ fs.length ∧ j = .int .i64 i ∧ kk = .int .i64 (-1)) (fun _ j => fs.length - (intOf j).toNat)
          case atStart => exact ⟨0, Nat.zero_le _, Nat.zero_le _, rfl, rfl⟩
          case round =>
            obtain ⟨i, hi, hil, rfl, rfl⟩ := hrel
            by_cases hlt : i < fs.length
            · obtain ⟨bb, off, rfl, hbb, hcc⟩ := S.fr.at0 (by omega)
              have k0 := (hcc i hlt).k0
              have hD := S.fr.each fs[i] (List.getElem_mem hlt)
              have hki : (i : Int) < (fs.length : Int) := by omega
              by_cases hiK : i < K
              · have hno := hK.no i hiK hlt
                clear hcc
                go_wp2_with fail
                refine (has_any _ _ _ _ _ hD.l1 hD.d1).mono ?_
                rintro e w7 ⟨rfl, rfl⟩
                rw [hno]
                go_wp2
                go_round
                case rel => exact ⟨i + 1, by omega, by omega, by go_num, rfl⟩
                case measure => simp [intOf]; omega
              · obtain rfl : i = K := by omega
                have hyes := hK.yes hlt
                have hcc' := hcc
                clear hcc
                go_wp2_with fail
                refine (has_any _ _ _ _ _ hD.l1 hD.d1).mono ?_
                rintro e w7 ⟨rfl, rfl⟩
                rw [hyes]
                go_wp2_with fail
                obtain ⟨k0, k1, _, _, _, _, _⟩ := hcc' i hlt
                obtain ⟨lb, hlv, hVA⟩ : ∃ lb, lv = .pointer (some ⟨lb, 0, none⟩) ∧ VarAt w7 (sb i) name lb (bdOf fs name i) := by
                  rcases HLV.out with ⟨h, _⟩ | ⟨_, h⟩
                  · exact absurd hlt h
                  · exact h
                subst hlv
                have hfi := S.fit fs[i] (List.getElem_mem hlt)
                simp only [fits, decide_eq_true_eq] at hfi
                have HFI0 : Hid _ := hfi
                have HBD : Hid (boundIn fs[i].vn fs[i].vb name = bdOf fs name i) := by unfold bdOf; rw [dif_pos hlt]; rfl
                obtain ⟨c31, _, _⟩ := S.at_ i hlt
                have hq40 := fun W => ptr40_same W ⟨lb, 0, none⟩
                clear hfi HLV
                go_quiet ((go_at_call 21; exact Calls.quiet_of_same (bound_any _ _ _ _ _ _ _ _ hD.l1 HFI0.out.1 (hD.d1.drewN _) (hD.d2.drewN _))))
                rw [HBD.out]
                generalize hbd : bdOf fs name i = bd at *
                go_wp2_with fail
                refine (var_any (hVA.drewN _)).mono ?_
                rintro e w8 ⟨rfl, hw8⟩
                subst hw8
                go_wp2_with fail
                refine (zzbound_any (hVA.drewN _)).mono ?_
                rintro e w8 ⟨rfl, hw8⟩
                subst hw8
                have hbb' : (bd != bd) = false := by simp
                have HS9 : Hid _ := S.below (below_drewN (Below.refl w7.heap.size w7) nq)
                clear S hVA hq40 c31 k0 k1 hD HBD HFI0 hK hyes hcc' hbd
                go_wp2
                go_loopw [12] (fun j wr => ∃ m : Nat, m ≤ fs.length ∧ j = .int .i64 m ∧ Ls w1 wr (some ⟨bb, off, none⟩) fs name w4.heap.size sb (pAll fs name bd i)) (fun j _ => fs.length - (intOf j).toNat)
                case atStart => exact ⟨0, Nat.zero_le _, rfl, HS9.out⟩
                case round =>
                  obtain ⟨m, hm, rfl, R⟩ := hrel
                  clear HS9
                  by_cases hml : m < fs.length
                  · obtain ⟨bb', off', heq, hbb', hcc⟩ := R.fr.at0 (by omega)
                    injection heq with heq
                    injection heq with hq1 hq2
                    subst hq1
                    subst hq2
                    obtain ⟨k0, k1, k2, k3, k4', k5, k6⟩ := hcc m hml
                    have hD := R.fr.each fs[m] (List.getElem_mem hml)
                    obtain ⟨c31, hsb, hwk⟩ := R.at_ m hml
                    have hki' : (m : Int) < (fs.length : Int) := by omega
                    have hla := fun o => (Below.refl wr.heap.size wr).alloc (Nat.le_refl _) o
                    have hbig31 : w4.heap.size < wr.heap.size := (Array.getElem?_eq_some_iff.1 R.row).1
                    have HFI : Hid _ := R.fit fs[m] (List.getElem_mem hml)
                    obtain ⟨_, _, _, g6, g7, g8⟩ := R.good fs[m] (List.getElem_mem hml)
                    have H8 : Hid _ := g8
                    clear hcc g8
                    rcases hwk with ⟨hw, c6⟩ | ⟨hw, ab', rb', c6, hA⟩
                    · rw [hw] at k3
                      have c6a := fun o => ((hla o).cell (p := ⟨sb m, 6, none⟩) hsb).trans c6
                      clear hw c6
                      go_wp2_with fail
                      refine (reads_nil (sb m) _ (c6a _)).mono ?_
                      rintro e w8 ⟨rfl, hw8⟩
                      have HR : Hid (Ls w1 w8 (some ⟨bb, off, none⟩) fs name w4.heap.size sb (pAll fs name bd i)) := by rw [hw8]; exact R.below (hla _)
                      have e3 : w8.cell? ⟨wr.heap.size, 3, none⟩ = some (.bool false) := by
                        rw [hw8]; exact cell_at (cs := [_, _, _, _, _, _, _]) (heap_alloc_new wr _) 3
                      clear hw8 c6a
                      go_wp2
                      go_roundw
                      case rel => exact ⟨m + 1, by omega, by go_num, HR.out⟩
                      case measure => simp [intOf]; omega
                    · obtain ⟨n0, n1⟩ := H8.out hw
                      have HX : Hid _ := reads_fst (name := name) (p := (pAll fs name bd i)) hml (by have := HFI.out; simp only [fits, decide_eq_true_eq] at this; exact this.2) hw
                      have HY : Hid _ := reads_snd (name := name) (p := (pAll fs name bd i)) hml (by have := HFI.out; simp only [fits, decide_eq_true_eq] at this; exact this.2) hw n0
                      have HLL : Hid (fs[m].rn.length = fs[m].ra.length) := by have := HFI.out; simp only [fits, decide_eq_true_eq] at this; exact this.2
                      have hnl : (noteP fs name (pAll fs name bd i) (rs0 fs) m).length ≤ 4194304 := by
                        have h1 := noteP_len fs name (pAll fs name bd i) (rs0 fs) m
                        have h2 : (rs0 fs m).length ≤ 131072 := by unfold rs0; rw [dif_pos hml]; simp; omega
                        omega
                      rw [hw] at k3
                      have c6a := fun o => ((hla o).cell (p := ⟨sb m, 6, none⟩) hsb).trans c6
                      have hAa := fun o => hA.below (hla o)
                      have HAA : Hid _ := hAa
                      have hsba : ∀ o, sb m < (wr.alloc o).heap.size := fun o => by simp; omega
                      clear hw c6 hA hAa
                      go_wp2_with fail
                      refine (reads_walk (sb m) w4.heap.size ab' _ _ rb' _ (c6a _) (HAA.out _) hnl (hsba _)).mono ?_
                      rintro e w8 ⟨⟨a1, a2, rfl, D1, D2⟩, L8⟩
                      have L8' : Below wr.heap.size wr w8 := (hla _).trans (L8.mono (by simp))
                      have e8 : w8.heap[wr.heap.size]? = some (.cells #[.slice fs[m].a1 fs[m].vn.length fs[m].c1, .slice fs[m].a2 fs[m].vb.length fs[m].c2, .slice fs[m].a3 fs[m].dc.length fs[m].c3, .bool true, .int .i64 fs[m].nn, .slice fs[m].a6 fs[m].rn.length fs[m].c6, .slice fs[m].a7 fs[m].ra.length fs[m].c7] 45 (0, 0)) := by
                        rw [L8.block _ (by simp)]; exact heap_alloc_new wr _
                      have e2 := cell_at (cs := [_, _, _, _, _, _, _]) e8 2
                      have e3 := cell_at (cs := [_, _, _, _, _, _, _]) e8 3
                      have e4 := cell_at (cs := [_, _, _, _, _, _, _]) e8 4
                      have e5 := cell_at (cs := [_, _, _, _, _, _, _]) e8 5
                      have e6 := cell_at (cs := [_, _, _, _, _, _, _]) e8 6
                      simp only [List.getElem?_cons_succ, List.getElem?_cons_zero] at e2 e3 e4 e5 e6
                      have hD8 := hD.below L8'
                      have HR : Hid _ := R.below L8'
                      clear L8 e8 hla HAA c6a hsba hnl k0 k1 k2 k3 k4' k5 k6 R hD
                      rcases Nat.lt_trichotomy m i with hmi | hmi | hmi
                      · have hne : ((m : Int) == (i : Int)) = false := by rw [beq_eq_false_iff_ne]; omega
                        cases bd with
                        | false =>
                          have hpi : pAll fs name false i m = true := by simp [pAll, pl, hmi]
                          rw [hpi] at HX HY
                          go_wp2_with fail
                          refine (readsAre_at _ _ _ _ _ _ _ _ _ _ fs[m].rn fs[m].ra true name fs[m].nn _ _ _ HX.out HY.out HLL.out (by omega) (by simp) (by simp) D1 D2 hD8.d6 hD8.d7).mono ?_
                          rintro e w9 ⟨rfl, k9, hw9⟩
                          have HR9 : Hid _ := HR.out.drew9 hw9
                          clear hw9
                          go_wp2
                          go_roundw
                          case rel => exact ⟨m + 1, by omega, by go_num, HR9.out⟩
                          case measure => simp [intOf]; omega
                        | true =>
                          have hpi : pAll fs name true i m = has fs[m].dc name := by simp [pAll, pl, hmi, dcOf, hml]
                          rw [hpi] at HX HY
                          clear hpi
                          go_wp2_with fail
                          refine (has_any _ _ _ _ _ hD8.l3 hD8.d3).mono ?_
                          rintro e w10 ⟨rfl, hw10⟩
                          subst hw10
                          cases hdc : has fs[m].dc name with
                          | false =>
                            rw [hdc] at HX HY
                            clear hdc
                            go_wp2_with fail
                            refine (readsAre_at _ _ _ _ _ _ _ _ _ _ fs[m].rn fs[m].ra false name fs[m].nn _ _ _ HX.out HY.out HLL.out (by omega) (by simp) (by simp) D1 D2 hD8.d6 hD8.d7).mono ?_
                            rintro e w9 ⟨rfl, k9, hw9⟩
                            have HR9 : Hid _ := HR.out.drew9 hw9
                            clear hw9
                            go_wp2
                            go_roundw
                            case rel => exact ⟨m + 1, by omega, by go_num, HR9.out⟩
                            case measure => simp [intOf]; omega
                          | true =>
                            rw [hdc] at HX HY
                            clear hdc
                            go_wp2_with fail
                            refine (readsAre_at _ _ _ _ _ _ _ _ _ _ fs[m].rn fs[m].ra true name fs[m].nn _ _ _ HX.out HY.out HLL.out (by omega) (by simp) (by simp) D1 D2 hD8.d6 hD8.d7).mono ?_
                            rintro e w9 ⟨rfl, k9, hw9⟩
                            have HR9 : Hid _ := HR.out.drew9 hw9
                            clear hw9
                            go_wp2
                            go_roundw
                            case rel => exact ⟨m + 1, by omega, by go_num, HR9.out⟩
                            case measure => simp [intOf]; omega
                      · subst hmi
                        cases bd with
                        | false =>
                          have hpi : pAll fs name false m m = true := by simp [pAll]
                          rw [hpi] at HX HY
                          go_wp2_with fail
                          refine (readsAre_at _ _ _ _ _ _ _ _ _ _ fs[m].rn fs[m].ra true name fs[m].nn _ _ _ HX.out HY.out HLL.out (by omega) (by simp) (by simp) D1 D2 hD8.d6 hD8.d7).mono ?_
                          rintro e w9 ⟨rfl, k9, hw9⟩
                          have HR9 : Hid _ := HR.out.drew9 hw9
                          clear hw9
                          go_wp2
                          go_roundw
                          case rel => exact ⟨m + 1, by omega, by go_num, HR9.out⟩
                          case measure => simp [intOf]; omega
                        | true =>
                          have hpi : pAll fs name true m m = false := by simp [pAll, pl]
                          rw [hpi] at HX HY
                          go_wp2_with fail
                          refine (readsAre_at _ _ _ _ _ _ _ _ _ _ fs[m].rn fs[m].ra false name fs[m].nn _ _ _ HX.out HY.out HLL.out (by omega) (by simp) (by simp) D1 D2 hD8.d6 hD8.d7).mono ?_
                          rintro e w9 ⟨rfl, k9, hw9⟩
                          have HR9 : Hid _ := HR.out.drew9 hw9
                          clear hw9
                          go_wp2
                          go_roundw
                          case rel => exact ⟨m + 1, by omega, by go_num, HR9.out⟩
                          case measure => simp [intOf]; omega
                      · have hne : ((m : Int) == (i : Int)) = false := by rw [beq_eq_false_iff_ne]; omega
                        have hpi : pAll fs name bd i m = false := by simp [pAll, pl, show ¬ m < i from by omega, show ¬ m = i from by omega]
                        rw [hpi] at HX HY
                        go_wp2_with fail
                        refine (readsAre_at _ _ _ _ _ _ _ _ _ _ fs[m].rn fs[m].ra false name fs[m].nn _ _ _ HX.out HY.out HLL.out (by omega) (by simp) (by simp) D1 D2 hD8.d6 hD8.d7).mono ?_
                        rintro e w9 ⟨rfl, k9, hw9⟩
                        have HR9 : Hid _ := HR.out.drew9 hw9
                        clear hw9
                        go_wp2
                        go_roundw
                        case rel => exact ⟨m + 1, by omega, by go_num, HR9.out⟩
                        case measure => simp [intOf]; omega
                  · go_wp2
                    go_ret
                    exact ⟨rfl, R.bel⟩
            · obtain rfl : i = fs.length := by omega
              obtain rfl : K = fs.length := by omega
              have hlv : lv = .pointer none := by
                rcases HLV.out with ⟨_, h⟩ | ⟨h, _⟩
                · exact h
                · omega
              subst hlv
              go_wp2
              go_loopw [12] (fun j wr => ∃ i : Nat, i ≤ fs.length ∧ j = .int .i64 i ∧ Ls w1 wr a fs name w4.heap.size sb (pAll fs name (bdOf fs name fs.length) fs.length)) (fun j _ => fs.length - (intOf j).toNat)
              case atStart => exact ⟨0, Nat.zero_le _, rfl, S⟩
              case round =>
                obtain ⟨i, hi, rfl, R⟩ := hrel
                clear S
                by_cases hlt : i < fs.length
                · obtain ⟨bb, off, rfl, hbb, hcc⟩ := R.fr.at0 (by omega)
                  obtain ⟨k0, k1, k2, k3, k4', k5, k6⟩ := hcc i hlt
                  have hD := R.fr.each fs[i] (List.getElem_mem hlt)
                  obtain ⟨c31, hsb, hwk⟩ := R.at_ i hlt
                  have hki : (i : Int) < (fs.length : Int) := by omega
                  have hla := fun o => (Below.refl wr.heap.size wr).alloc (Nat.le_refl _) o
                  have hbig31 : w4.heap.size < wr.heap.size := (Array.getElem?_eq_some_iff.1 R.row).1
                  have HFI : Hid _ := R.fit fs[i] (List.getElem_mem hlt)
                  obtain ⟨_, _, _, g6, g7, g8⟩ := R.good fs[i] (List.getElem_mem hlt)
                  have H8 : Hid _ := g8
                  clear hcc g8
                  rcases hwk with ⟨hw, c6⟩ | ⟨hw, ab', rb', c6, hA⟩
                  · rw [hw] at k3
                    have c6a := fun o => ((hla o).cell (p := ⟨sb i, 6, none⟩) hsb).trans c6
                    clear hw c6
                    go_wp2_with fail
                    refine (reads_nil (sb i) _ (c6a _)).mono ?_
                    rintro e w8 ⟨rfl, hw8⟩
                    have HR : Hid (Ls w1 w8 (some ⟨bb, off, none⟩) fs name w4.heap.size sb (pAll fs name (bdOf fs name fs.length) fs.length)) := by rw [hw8]; exact R.below (hla _)
                    have K8 := (hla (.cells #[.slice fs[i].a1 fs[i].vn.length fs[i].c1, .slice fs[i].a2 fs[i].vb.length fs[i].c2, .slice fs[i].a3 fs[i].dc.length fs[i].c3, .bool false, .int .i64 fs[i].nn, .slice fs[i].a6 fs[i].rn.length fs[i].c6, .slice fs[i].a7 fs[i].ra.length fs[i].c7] 45)).size
                    have e3 : w8.cell? ⟨wr.heap.size, 3, none⟩ = some (.bool false) := by
                      rw [hw8]; exact cell_at (cs := [_, _, _, _, _, _, _]) (heap_alloc_new wr _) 3
                    clear hw8 K8 c6a
                    go_wp2
                    go_roundw
                    case rel => exact ⟨i + 1, by omega, by go_num, HR.out⟩
                    case measure => simp [intOf]; omega
                  · obtain ⟨n0, n1⟩ := H8.out hw
                    have HX : Hid _ := reads_fst (name := name) (p := (pAll fs name (bdOf fs name fs.length) fs.length)) hlt (by have := HFI.out; simp only [fits, decide_eq_true_eq] at this; exact this.2) hw
                    have HY : Hid _ := reads_snd (name := name) (p := (pAll fs name (bdOf fs name fs.length) fs.length)) hlt (by have := HFI.out; simp only [fits, decide_eq_true_eq] at this; exact this.2) hw n0
                    have HLL : Hid (fs[i].rn.length = fs[i].ra.length) := by have := HFI.out; simp only [fits, decide_eq_true_eq] at this; exact this.2
                    have hnl : (noteP fs name (pAll fs name (bdOf fs name fs.length) fs.length) (rs0 fs) i).length ≤ 4194304 := by
                      have h1 := noteP_len fs name (pAll fs name (bdOf fs name fs.length) fs.length) (rs0 fs) i
                      have h2 : (rs0 fs i).length ≤ 131072 := by unfold rs0; rw [dif_pos hlt]; simp; omega
                      omega
                    rw [hw] at k3
                    have c6a := fun o => ((hla o).cell (p := ⟨sb i, 6, none⟩) hsb).trans c6
                    have hAa := fun o => hA.below (hla o)
                    have Ha : Hid _ := hAa
                    have hsba : ∀ o, sb i < (wr.alloc o).heap.size := fun o => by simp; omega
                    clear hw c6 hA hAa
                    go_wp2_with fail
                    refine (reads_walk (sb i) w4.heap.size ab' _ _ rb' _ (c6a _) (Ha.out _) hnl (hsba _)).mono ?_
                    rintro e w8 ⟨⟨a1, a2, rfl, D1, D2⟩, L8⟩
                    have L8' : Below wr.heap.size wr w8 := (hla _).trans (L8.mono (by simp))
                    have e8 : w8.heap[wr.heap.size]? = some (.cells #[.slice fs[i].a1 fs[i].vn.length fs[i].c1, .slice fs[i].a2 fs[i].vb.length fs[i].c2, .slice fs[i].a3 fs[i].dc.length fs[i].c3, .bool true, .int .i64 fs[i].nn, .slice fs[i].a6 fs[i].rn.length fs[i].c6, .slice fs[i].a7 fs[i].ra.length fs[i].c7] 45 (0, 0)) := by
                      rw [L8.block _ (by simp)]; exact heap_alloc_new wr _
                    have e2 := cell_at (cs := [_, _, _, _, _, _, _]) e8 2
                    have e3 := cell_at (cs := [_, _, _, _, _, _, _]) e8 3
                    have e4 := cell_at (cs := [_, _, _, _, _, _, _]) e8 4
                    have e5 := cell_at (cs := [_, _, _, _, _, _, _]) e8 5
                    have e6 := cell_at (cs := [_, _, _, _, _, _, _]) e8 6
                    simp only [List.getElem?_cons_succ, List.getElem?_cons_zero] at e2 e3 e4 e5 e6
                    have hD8 := hD.below L8'
                    have HR : Hid _ := R.below L8'
                    clear L8 e8 hla Ha c6a hsba hnl k0 k1 k2 k3 k4' k5 k6 R hD
                    have hpi : pAll fs name (bdOf fs name fs.length) fs.length i = true := pl_n fs name i hlt
                    rw [hpi] at HX HY
                    go_wp2_with fail
                    refine (readsAre_at _ _ _ _ _ _ _ _ _ _ fs[i].rn fs[i].ra true name fs[i].nn _ _ _ HX.out HY.out HLL.out (by omega) (by simp) (by simp) D1 D2 hD8.d6 hD8.d7).mono ?_
                    rintro e w9 ⟨rfl, k9, hw9⟩
                    have HR9 : Hid _ := HR.out.drew9 hw9
                    clear hw9
                    go_wp2
                    go_roundw
                    case rel => exact ⟨i + 1, by omega, by go_num, HR9.out⟩
                    case measure => simp [intOf]; omega
                · go_wp2
                  go_ret
                  exact ⟨rfl, R.bel⟩
        · obtain rfl : fs = [] := List.eq_nil_of_length_eq_zero (by omega)
          obtain rfl : K = 0 := by simpa using hKl
          go_wp2_with fail
          rw [← pp_out (sb := sb) hp]
          refine (zzlookup_any hC name 0 hK HRS.out hB).mono ?_
          intro e w6 hP
          obtain ⟨lv, rfl, hlv, RL⟩ := hP
          have S := ls_of hF L4 RB RL HGD.out HFA.out
          have hlv' : lv = .pointer none := by
            rcases hlv with ⟨_, h⟩ | ⟨h, _⟩
            · exact h
            · simp at h
          subst hlv'
          have LS := S.bel
          clear hlv RL HS0 HRS hC F4 S
          rw [pp_out (sb := sb) hp]
          go_wp2
          refine wp_loop_rounds 1 ?_
          rw [rounds_succ]
          go_wp2
          refine wp_loop_rounds 1 ?_
          rw [rounds_succ]
          go_wp2
          go_ret
          exact ⟨rfl, LS⟩
end Go.Proofs.Qxb6602244a
