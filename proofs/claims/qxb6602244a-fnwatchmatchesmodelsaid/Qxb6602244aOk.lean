/-
  zzWatchKeysOKB1 (33).
-/
import Derived.Test.Qxb6602244aWantN
import Derived.Test.Qxb6602244aNames2
import Derived.Test.Qxb6602244aTake
import Derived.Test.Qxb6602244aBox
import Derived.Test.Qxb6602244aCl
import Derived.Deep.RegionWith
namespace Go.Proofs.Qxb6602244a
open Go.ChangeShapes Go.WideShapes Go.ChangeAt Go.RowKit
set_option linter.unusedVariables false
set_option linter.unusedSimpArgs false

set_option maxHeartbeats 4000000 in
set_option maxRecDepth 100000 in
theorem ok_any (B sb wm ab ob : Nat) (cs : List Value) (ca co : Array Value) (f : ByteArray → Nat) (M : Wms) (x : Inp) (p : Nat) (w : World) (hx : InpOk w x) (hp : x.p = p) (hpl : p ≤ x.rn.length) (hcp : x.rn.length ≤ x.c1) (hcw : x.wn.length ≤ x.c3)
    (hs : w.heap[sb]? = some (.cells cs.toArray 87 (0, 0))) (h5 : cs[5]? = some (.map (some wm)))
    (hW : Wat w B wm ab ob f M) (ha : w.heap[ab]? = some (.cells ca 71 (0, 0))) (hob : w.heap[ob]? = some (.cells co 71 (0, 0))) (hne : ab ≠ ob) (hM : wantM x.i p x.rn x.ra (entL x.wn x.we x.wb x.wa) = M) :
    Calls Try.prog 33 #[.pointer (some ⟨sb, 0, none⟩), .pointer (some ⟨ab, 0, none⟩), .agg x.cells.toArray] w fun e w' => e = .returned (.bool true) ∧ Below w.heap.size w w' := by
  have HM : Hid (wantM x.i p x.rn x.ra (entL x.wn x.we x.wb x.wa) = M) := hM
  clear hM
  have hbx : Below w.heap.size w (w.alloc (.cells x.cells.toArray 59)) := (Below.refl _ _).alloc (Nat.le_refl _) _
  have hk := keys_any x _ (hx.below hbx)
  have n1 := hx.n1
  have n3 := hx.n3
  have l4 := hx.l4
  have hln : (keyN x.wn x.rn).length = 2 * x.wn.length + x.rn.length := by rw [keyN, List.length_append, kn_len _ (fun _ => rfl)]
  have hle : (keyE x.we x.rn x.i).length = 2 * x.wn.length + x.rn.length := by rw [keyE, List.length_append, kn_len _ (fun _ => rfl)]; simp; omega
  have HLN : Hid _ := hln
  have HLE : Hid _ := hle
  have HL4 : Hid _ := l4
  have HP : Hid _ := hp
  clear l4 hp
  obtain ⟨nl, hnl⟩ : ∃ nl, nl = x.wn ++ x.rn := ⟨_, rfl⟩
  have HNL : Hid (nl = x.wn ++ x.rn) := hnl
  have hnk2 : nl.length ≤ 4194304 := by rw [hnl]; simp; omega
  clear hnl
  have hnk : (keyN x.wn x.rn).length ≤ 4194304 := by omega
  clear hln hle
  unfold Inp.cells
  go_enter Try.func33, Try.ntmps33
  go_wp2_with fail
  refine hk.mono ?_
  intro e w1 hP
  obtain ⟨va, vc, ua, uc, rfl, hdn, hde, hb1⟩ := hP
  have hbw : Below w.heap.size w w1 := hbx.trans (hb1.mono hbx.size)
  have hbox1 : w1.heap[w.heap.size]? = some (.cells x.cells.toArray 59 (0, 0)) := by rw [hb1.block _ (by simp)]; exact heap_alloc_new w _
  have hsw : w.heap.size < w1.heap.size := (Array.getElem?_eq_some_iff.1 hbox1).1
  have HS1 : Hid _ := KeepsC.below hbw _ _ _ _ hs
  have HA1 : Hid _ := KeepsC.below hbw _ _ _ _ ha
  have HO1 : Hid _ := KeepsC.below hbw _ _ _ _ hob
  have HW1 : Hid _ := hW.keep (Keeps.below hbw)
  have HX1 : Hid _ := hx.below hbw
  have HBX : Hid _ := hbox1
  have H5 : Hid _ := h5
  have HBW : Hid (Below w.heap.size w w1) := hbw
  have HDN : Hid _ := hdn
  have HDE : Hid _ := hde
  clear hk hbx hb1 hs ha hob hW hx hbox1 h5 hbw hdn hde
  go_wp2
  go_loopw [9] (fun j wr => ∃ k : Nat, k ≤ (keyN x.wn x.rn).length ∧ j = .int .i64 k ∧ Below w1.heap.size w1 wr) (fun j _ => (keyN x.wn x.rn).length - (intOf j).toNat)
  case atStart => exact ⟨0, Nat.zero_le _, rfl, Below.refl _ _⟩
  case round =>
    obtain ⟨k, hk, rfl, R⟩ := hrel
    by_cases hlt : k < (keyN x.wn x.rn).length
    · have hlt2 : k < (keyE x.we x.rn x.i).length := by rw [HLE.out, ← HLN.out]; exact hlt
      obtain ⟨y, hy⟩ : ∃ y, y = (keyN x.wn x.rn)[k] := ⟨_, rfl⟩
      obtain ⟨z, hz⟩ : ∃ z, z = (keyE x.we x.rn x.i)[k] := ⟨_, rfl⟩
      obtain ⟨b1, o1, rfl, hb1, hc1⟩ := HDN.out.at0 (by omega)
      obtain ⟨b2, o2, rfl, hb2, hc2⟩ := HDE.out.at0 (by omega)
      have d1 := hc1 k hlt
      have d2 := hc2 k hlt2
      rw [← hy] at d1
      rw [← hz] at d2
      have D1 : Hid (w1.cell? ⟨b1, o1 + k, none⟩ = some (.string y)) := d1
      have D2 : Hid (w1.cell? ⟨b2, o2 + k, none⟩ = some (.int .i64 z)) := d2
      have i1 : (k : Int) < ((keyN x.wn x.rn).length : Int) := by omega
      have i2 : (k : Int) < ((keyE x.we x.rn x.i).length : Int) := by omega
      have HR : Hid (Below w1.heap.size w1 wr) := R
      have hzr := R.size
      clear hc1 hc2 hy hz HDN HDE R d1 d2
      go_upto_region 5 with fail
      go_cut [10, 11, 12] (fun a b c W => a = .bool (okOf (look M y z)) ∧ b = .bool (mineOf (look M y z)) ∧ c = .int .i64 (atOf (look M y z)) ∧ Below w1.heap.size w1 W)
      case first =>
        have d1 := Cl.cell hb1 D1.out
        have d2 := Cl.cell hb2 D2.out
        have hcall := fun s : Cl w1 => s.call (watcher_any B sb wm ab ob cs ca co f M y z s.w (KeepsC.below s.b _ _ _ _ HS1.out) H5.out (HW1.out.keep (Keeps.below s.b)) (KeepsC.below s.b _ _ _ _ HA1.out) (KeepsC.below s.b _ _ _ _ HO1.out) hne)
        unfold trip at hcall
        have HC : Hid (∀ s : Cl w1, Calls Try.prog 44 #[.pointer (some ⟨sb, 0, none⟩), .pointer (some ⟨ab, 0, none⟩), .string y, .int .i64 z] s.w fun e w' => e = .returned (.tuple #[.bool (okOf (look M y z)), .bool (mineOf (look M y z)), .int .i64 (atOf (look M y z))]) ∧ ∃ t : Cl w1, w' = t.w) := hcall
        clear hcall
        refine wp_region_cl HR.out (by kernel_rfl) (by kernel_rfl) ?_
        repeat (go_big_quiet_step (exact HC.out _))
        refine wpQuiet_nil ?_
        intro _ hw'
        obtain ⟨s, hw''⟩ := hw'
        subst hw''
        have HF : Hid (Below w1.heap.size w1 s.w) := s.b
        clear HC d1 d2
        go_wp2
        go_meet
        case rel => exact ⟨rfl, rfl, rfl, HF.out⟩
      case rest =>
        obtain ⟨e10, e11, e12, R2⟩ := hcut
        obtain ⟨oo, hoo⟩ : ∃ q, q = okOf (look M y z) := ⟨_, rfl⟩
        obtain ⟨mm, hmm⟩ : ∃ q, q = mineOf (look M y z) := ⟨_, rfl⟩
        obtain ⟨tt, htt⟩ : ∃ q, q = atOf (look M y z) := ⟨_, rfl⟩
        have htr : trip (look M y z) = .tuple #[.bool oo, .bool mm, .int .i64 tt] := by rw [hoo, hmm, htt]; rfl
        rw [← hoo] at e10
        rw [← hmm] at e11
        rw [← htt] at e12
        subst e10
        subst e11
        subst e12
        obtain ⟨w2, hw2⟩ : ∃ q, q = wc := ⟨_, rfl⟩
        subst hw2
        have HR2 : Hid (Below w1.heap.size w1 w2) := R2
        have HTR : Hid _ := htr
        have hzr2 := R2.size
        clear R2 hoo hmm htt htr HR hzr
        go_upto_region 6 with fail
        go_cut [13, 14, 15] (fun a b c W => a = .bool oo ∧ b = .bool mm ∧ c = .int .i64 tt ∧ Below w1.heap.size w1 W)
        case first =>
          have d1 := Cl.cell hb1 D1.out
          have d2 := Cl.cell hb2 D2.out
          have hbox : w1.heap[w.heap.size]? = some (.cells x.cells.toArray 59 (0, 0)) := HBX.out
          have b0 := fun s : Cl w1 => Cl.cells hbox s 0
          have b1' := fun s : Cl w1 => Cl.cells hbox s 1
          have b2' := fun s : Cl w1 => Cl.cells hbox s 2
          have b3 := fun s : Cl w1 => Cl.cells hbox s 3
          have b4 := fun s : Cl w1 => Cl.cells hbox s 4
          have b5 := fun s : Cl w1 => Cl.cells hbox s 5
          have b6 := fun s : Cl w1 => Cl.cells hbox s 6
          have b7 := fun s : Cl w1 => Cl.cells hbox s 7
          simp only [Inp.cells, List.getElem?_cons_succ, List.getElem?_cons_zero] at b0 b1' b2' b3 b4 b5 b6 b7
          clear hbox
          have HC : Hid (∀ s : Cl w1, Calls Try.prog 45 #[.agg #[.slice x.a1 x.rn.length x.c1, .slice x.a2 x.ra.length x.c2, .slice x.a3 x.wn.length x.c3, .slice x.a4 x.we.length x.c4, .slice x.a5 x.wb.length x.c5, .slice x.a6 x.wa.length x.c6, .int .i64 x.i, .int .i64 x.p], .string y, .int .i64 z] s.w fun e w' => e = .returned (.tuple #[.bool oo, .bool mm, .int .i64 tt]) ∧ ∃ t : Cl w1, w' = t.w) := by
            intro s
            have h := wantW_any x p y z s.w (HX1.out.below s.b) HP.out hpl
            rw [HM.out, HTR.out] at h
            exact s.call h
          refine wp_region_cl HR2.out (by kernel_rfl) (by kernel_rfl) ?_
          repeat (go_big_quiet_step (exact HC.out _))
          refine wpQuiet_nil ?_
          intro _ hw'
          obtain ⟨s, hw''⟩ := hw'
          subst hw''
          have HF : Hid (Below w1.heap.size w1 s.w) := s.b
          clear HC d1 d2 b0 b1' b2' b3 b4 b5 b6 b7
          go_wp2
          go_meet
          case rel => exact ⟨rfl, rfl, rfl, HF.out⟩
        case rest => as_aux_lemma =>
          obtain ⟨rfl, rfl, rfl, R3⟩ := hcut
          have HR3 : Hid (Below w1.heap.size w1 wc) := R3
          clear R3
          go_wp2
          go_roundw
          case rel => exact ⟨k + 1, by omega, by go_num, HR3.out⟩
          case measure => simp [intOf]; omega
    · obtain rfl : k = (keyN x.wn x.rn).length := by omega
      clear HDN HDE
      have hbox : wr.heap[w.heap.size]? = some (.cells x.cells.toArray 59 (0, 0)) := by rw [R.block _ hsw]; exact HBX.out
      have b0 := cell_at hbox 0
      have b1' := cell_at hbox 1
      have b2' := cell_at hbox 2
      have b3 := cell_at hbox 3
      have b4 := cell_at hbox 4
      have b5 := cell_at hbox 5
      have b6 := cell_at hbox 6
      have b7 := cell_at hbox 7
      simp only [Inp.cells, List.getElem?_cons_succ, List.getElem?_cons_zero] at b0 b1' b2' b3 b4 b5 b6 b7
      clear hbox
      have hnames := names_any2 x wr (HX1.out.below R)
      go_wp2_with fail
      refine hnames.mono ?_
      intro e w3 hP
      obtain ⟨na, nc, rfl, hdm, hb3, hcapn⟩ := hP
      rw [← HNL.out] at hdm hcapn ⊢
      have HB13 : Hid (Below w1.heap.size w1 w3) := R.trans (hb3.mono R.size)
      have hz3 := HB13.out.size
      have HDM : Hid (Dat Value.string w3 na nl) := hdm
      clear hnames b0 b1' b2' b3 b4 b5 b6 b7 R hb3 hdm
      go_wp2
      go_loopw [17] (fun j wq => ∃ k : Nat, k ≤ nl.length ∧ j = .int .i64 k ∧ Below w3.heap.size w3 wq) (fun j _ => nl.length - (intOf j).toNat)
      case atStart => exact ⟨0, Nat.zero_le _, rfl, Below.refl _ _⟩
      case round =>
        obtain ⟨k, hk2, rfl, S⟩ := hrel
        have HS : Hid (Below w3.heap.size w3 wr) := S
        have HB1r : Hid (Below w1.heap.size w1 wr) := HB13.out.trans (S.mono HB13.out.size)
        have hzs := S.size
        clear S
        by_cases hlt : k < nl.length
        · obtain ⟨y, hy⟩ : ∃ y, y = nl[k] := ⟨_, rfl⟩
          obtain ⟨b1, o1, rfl, hb1, hc1⟩ := HDM.out.at0 (by omega)
          have D1 : Hid (w3.cell? ⟨b1, o1 + k, none⟩ = some (.string y)) := by rw [hy]; exact hc1 k hlt
          have d1 := (HS.out.cell (p := ⟨b1, o1 + k, none⟩) hb1).trans D1.out
          have i1 : (k : Int) < (nl.length : Int) := by omega
          have i2 : (k : Int) ≤ (nc : Int) := by omega
          have hcall := fun r => has_cut (some ⟨b1, o1, none⟩) nl k nc y (wr.drewN r) (by omega) hk2 ((HDM.out.below HS.out).drewN r)
          clear hc1 hy HDM
          cases hh : has (nl.take k) y with
          | true =>
            rw [hh] at hcall
            clear hh
            go_wp2_with fail
            go_quiet ((go_at_call 20; exact Calls.quiet_of_same (hcall _)))
            go_wp2
            go_roundw
            case rel => exact ⟨k + 1, by omega, by go_num, bel_drewN HS.out _⟩
            case measure => simp [intOf]; omega
          | false =>
            rw [hh] at hcall
            clear hh
            go_wp2_with fail
            go_quiet ((go_at_call 20; exact Calls.quiet_of_same (hcall _)))
            obtain ⟨w4, hw4⟩ : ∃ q, q = wr.drewN nq := ⟨_, rfl⟩
            have HS4 : Hid (Below w3.heap.size w3 w4) := by rw [hw4]; exact bel_drewN HS.out _
            have HB4 : Hid (Below w1.heap.size w1 w4) := by rw [hw4]; exact bel_drewN HB1r.out _
            rw [← hw4]
            clear hw4 hcall d1 HS HB1r hzs
            have hzs := HS4.out.size
            go_upto_region 14 with fail
            go_cut [99] (fun c W => c = .bool false ∧ Below w3.heap.size w3 W)
            case first =>
              have d1 := Cl.cell hb1 D1.out
              have hbox : w3.heap[w.heap.size]? = some (.cells x.cells.toArray 59 (0, 0)) := by rw [HB13.out.block _ hsw]; exact HBX.out
              have b0 := fun s : Cl w3 => Cl.cells hbox s 0
              have b1' := fun s : Cl w3 => Cl.cells hbox s 1
              have b2' := fun s : Cl w3 => Cl.cells hbox s 2
              have b3 := fun s : Cl w3 => Cl.cells hbox s 3
              have b4 := fun s : Cl w3 => Cl.cells hbox s 4
              have b5 := fun s : Cl w3 => Cl.cells hbox s 5
              have b6 := fun s : Cl w3 => Cl.cells hbox s 6
              have b7 := fun s : Cl w3 => Cl.cells hbox s 7
              simp only [Inp.cells, List.getElem?_cons_succ, List.getElem?_cons_zero] at b0 b1' b2' b3 b4 b5 b6 b7
              clear hbox
              have HCL : Hid (∀ s : Cl w3, Calls Try.prog 47 #[.pointer (some ⟨sb, 0, none⟩), .string y] s.w fun e w' => e = .returned (.int .i64 (lenOf M y)) ∧ ∃ t : Cl w3, w' = t.w) := by
                intro s
                have hb := HB13.out.trans (s.b.mono HB13.out.size)
                exact s.same (watchLen_any B sb wm ab ob cs f M y s.w (KeepsC.below hb _ _ _ _ HS1.out) H5.out (HW1.out.keep (Keeps.below hb)))
              have HCN : Hid (∀ s : Cl w3, Calls Try.prog 48 #[.agg #[.slice x.a1 x.rn.length x.c1, .slice x.a2 x.ra.length x.c2, .slice x.a3 x.wn.length x.c3, .slice x.a4 x.we.length x.c4, .slice x.a5 x.wb.length x.c5, .slice x.a6 x.wa.length x.c6, .int .i64 x.i, .int .i64 x.p], .string y] s.w fun e w' => e = .returned (.int .i64 (lenOf M y)) ∧ ∃ t : Cl w3, w' = t.w) := by
                intro s
                have hb := HB13.out.trans (s.b.mono HB13.out.size)
                have h := wantL_any x p y s.w (HX1.out.below hb) HP.out hpl hcp
                rw [HM.out] at h
                exact s.call h
              generalize lenOf M y = lv at HCL HCN
              refine wp_region_cl HS4.out (by kernel_rfl) (by kernel_rfl) ?_
              repeat (go_big_quiet_step (first | (go_at_call 47; exact HCL.out _) | (go_at_call 48; exact HCN.out _)))
              refine wpQuiet_nil ?_
              intro _ hw'
              obtain ⟨s, hw''⟩ := hw'
              subst hw''
              have HF : Hid (Below w3.heap.size w3 s.w) := s.b
              clear HCL HCN d1 b0 b1' b2' b3 b4 b5 b6 b7
              go_wp2
              go_meet
              case rel => exact ⟨rfl, HF.out⟩
            case rest => as_aux_lemma =>
              obtain ⟨rfl, R3⟩ := hcut
              have HR3 : Hid (Below w3.heap.size w3 wc) := R3
              clear R3
              go_wp2
              go_roundw
              case rel => exact ⟨k + 1, by omega, by go_num, HR3.out⟩
              case measure => simp [intOf]; omega
        · obtain rfl : k = nl.length := by omega
          have hbd : Below w1.heap.size w1 wr.drew := bel_drew HB1r.out
          have hbox : wr.heap[w.heap.size]? = some (.cells x.cells.toArray 59 (0, 0)) := by rw [HB1r.out.block _ hsw]; exact HBX.out
          have b0 := cell_at hbox 0
          have b1' := cell_at hbox 1
          have b2' := cell_at hbox 2
          have b3 := cell_at hbox 3
          have b4 := cell_at hbox 4
          have b5 := cell_at hbox 5
          have b6 := cell_at hbox 6
          have b7 := cell_at hbox 7
          simp only [Inp.cells, List.getElem?_cons_succ, List.getElem?_cons_zero] at b0 b1' b2' b3 b4 b5 b6 b7
          clear hbox
          have hL := watchNames_any B sb wm ab ob cs f M wr.drew (KeepsC.below hbd _ _ _ _ HS1.out) H5.out (HW1.out.keep (Keeps.below hbd))
          have hN := wantN_any x p wr.drew (HX1.out.below hbd) HP.out hpl hcp hcw
          rw [HM.out] at hN
          unfold Inp.cells at hN
          have HBD : Hid (Below w.heap.size w wr.drew) := HBW.out.trans (hbd.mono HBW.out.size)
          obtain ⟨lv, hlv⟩ : ∃ q, q = M.length := ⟨_, rfl⟩
          rw [← hlv] at hL hN
          clear hbd hlv HDM
          go_wp2_with fail
          go_region_with (first | (go_at_call 49; refine hL.mono ?_; rintro e w5 ⟨rfl, hw5⟩; subst hw5) | (go_at_call 50; refine hN.mono ?_; rintro e w6 ⟨rfl, hbw6⟩))
          all_goals
            have HF : Hid (Below w.heap.size w w6) := HBD.out.trans (hbw6.mono HBD.out.size)
            clear hL hN hbw6
            go_wp2
            go_ret
            exact ⟨rfl, HF.out⟩
end Go.Proofs.Qxb6602244a
