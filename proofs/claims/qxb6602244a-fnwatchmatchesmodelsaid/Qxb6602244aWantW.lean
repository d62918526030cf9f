/-
  zzWantWatcherB1 (45).
-/
import Derived.Test.Qxb6602244aPref
import Derived.Test.Qxb6602244aKeys
import Derived.Deep.DeepCutAuto
import Derived.Deep.CutBlock
namespace Go.Proofs.Qxb6602244a
open Go.ChangeShapes Go.WideShapes Go.ChangeAt Go.RowKit
set_option linter.unusedVariables false
set_option linter.unusedSimpArgs false

theorem entL_len (ns : List ByteArray) (es : List Int) (bs : List Bool) (zs : List Int) (h1 : es.length = ns.length) (h2 : bs.length = ns.length) (h3 : zs.length = ns.length) : (entL ns es bs zs).length = ns.length := by
  unfold entL; simp only [List.length_zip]; omega
theorem entL_at (ns : List ByteArray) (es : List Int) (bs : List Bool) (zs : List Int) (k : Nat) (h0 : k < ns.length) (h1 : k < es.length) (h2 : k < bs.length) (h3 : k < zs.length) (h : k < (entL ns es bs zs).length) : (entL ns es bs zs)[k] = (ns[k], es[k], bs[k], zs[k]) :=
  (List.getElem_of_eq (show entL ns es bs zs = ns.zip (es.zip (bs.zip zs)) from rfl) h).trans (by simp only [List.getElem_zip])

/-- entry m is of the name n and the expression e. -/
def keyAt (ns : List ByteArray) (es : List Int) (n : ByteArray) (e : Int) (m : Nat) : Prop := ns[m]? = some n ∧ es[m]? = some e
theorem keyAt_iff {ns : List ByteArray} {es : List Int} {n : ByteArray} {e : Int} {m : Nat} (h : m < ns.length) (h' : m < es.length) : keyAt ns es n e m ↔ ns[m] = n ∧ es[m] = e := by
  unfold keyAt; simp [h, h']

/-- the last entry of a key. -/
def PreOk (ns : List ByteArray) (es : List Int) (n : ByteArray) (e : Int) (v : Value) : Prop :=
  (v = .int .i64 (-1) ∧ ∀ m, m < ns.length → ¬ keyAt ns es n e m) ∨ (∃ m : Nat, v = .int .i64 m ∧ m < ns.length ∧ keyAt ns es n e m ∧ ∀ k, m < k → k < ns.length → ¬ keyAt ns es n e k)
theorem pre_none {ns : List ByteArray} {es : List Int} {bs : List Bool} {zs : List Int} {n : ByteArray} {e : Int} (h1 : es.length = ns.length) (h2 : bs.length = ns.length) (h3 : zs.length = ns.length) (h : ∀ m, m < ns.length → ¬ keyAt ns es n e m) : look (fillM (entL ns es bs zs)) n e = none := by
  apply look_fill_none
  intro y hy
  obtain ⟨k, hk, rfl⟩ := List.getElem_of_mem hy
  have hk' := hk
  rw [entL_len ns es bs zs h1 h2 h3] at hk'
  rw [entL_at ns es bs zs k hk' (by omega) (by omega) (by omega) hk]
  have := h k hk'
  rw [keyAt_iff hk' (by omega)] at this
  exact this
theorem pre_some {ns : List ByteArray} {es : List Int} {bs : List Bool} {zs : List Int} {n : ByteArray} {e : Int} (h1 : es.length = ns.length) (h2 : bs.length = ns.length) (h3 : zs.length = ns.length) {m : Nat} (hm : m < ns.length) (hk : keyAt ns es n e m) (h : ∀ k, m < k → k < ns.length → ¬ keyAt ns es n e k) : look (fillM (entL ns es bs zs)) n e = some (bs[m]'(by omega), zs[m]'(by omega)) := by
  have hl := entL_len ns es bs zs h1 h2 h3
  have := look_fill_last (L := entL ns es bs zs) (n := n) (e := e) (j := m) (by omega) ?_ ?_
  · rw [this, entL_at ns es bs zs m hm (by omega) (by omega) (by omega)]
  · rw [entL_at ns es bs zs m hm (by omega) (by omega) (by omega)]
    rw [keyAt_iff hm (by omega)] at hk
    exact hk
  · intro k hmk hkl
    rw [entL_at ns es bs zs k (by omega) (by omega) (by omega) (by omega)]
    have := h k hmk (by omega)
    rw [keyAt_iff (by omega) (by omega)] at this
    exact this
/-- the first read of a name that counts. -/
def FqOk (i : Int) (p : Nat) (rn : List ByteArray) (n : ByteArray) (e : Int) (v : Value) : Prop :=
  (v = .int .i64 (-1) ∧ (e ≠ i ∨ ∀ q, q < p → rn[q]? ≠ some n)) ∨ (∃ q : Nat, v = .int .i64 q ∧ e = i ∧ q < p ∧ rn[q]? = some n ∧ ∀ k, k < q → rn[k]? ≠ some n)
theorem fq_none {i : Int} {p : Nat} {rn : List ByteArray} {ra : List Int} {n : ByteArray} {e : Int} {L : List (ByteArray × Int × Bool × Int)} (h : e ≠ i ∨ ∀ q, q < p → rn[q]? ≠ some n) : look (wantM i p rn ra L) n e = look (fillM L) n e := by
  unfold wantM
  apply look_fold_other
  refine h.imp id (fun h r hr => ?_)
  obtain ⟨k, hk, rfl⟩ := List.getElem_of_mem hr
  simp only [List.length_take, List.length_zip] at hk
  rw [List.getElem_take, List.getElem_zip]
  have := h k (by omega)
  rw [List.getElem?_eq_getElem (by omega)] at this
  exact fun e => this (by rw [← e])
theorem fq_some {i : Int} {p : Nat} {rn : List ByteArray} {ra : List Int} {n : ByteArray} {L : List (ByteArray × Int × Bool × Int)} (hl : rn.length = ra.length) (hpl : p ≤ rn.length) {q : Nat} (hq : q < p) (hn : rn[q]? = some n) (h : ∀ k, k < q → rn[k]? ≠ some n) :
    look (wantM i p rn ra L) n i = if isMine (look (fillM L) n i) then look (fillM L) n i else some (true, ra[q]'(by omega)) := by
  unfold wantM
  have hlen : ((rn.zip ra).take p).length = p := by simp; omega
  have := look_fold_first i (n := n) (F := (rn.zip ra).take p) (M := fillM L) (q := q) (by omega) ?_ ?_
  · rw [this]; simp only [List.getElem_take, List.getElem_zip]
  · rw [List.getElem_take, List.getElem_zip]
    rw [List.getElem?_eq_getElem (by omega)] at hn
    simpa using hn
  · intro k hk hkl
    rw [List.getElem_take, List.getElem_zip]
    have := h k hk
    rw [List.getElem?_eq_getElem (by omega)] at this
    exact fun e => this (by rw [← e])

set_option maxHeartbeats 4000000 in
set_option maxRecDepth 100000 in
theorem wantW_any (x : Inp) (p : Nat) (n : ByteArray) (e : Int) (w : World) (hx : InpOk w x) (hp : x.p = p) (hpl : p ≤ x.rn.length) :
    Calls Try.prog 45 #[.agg x.cells.toArray, .string n, .int .i64 e] w fun r w' => r = .returned (trip (look (wantM x.i p x.rn x.ra (entL x.wn x.we x.wb x.wa)) n e)) ∧ Below w.heap.size w w' := by
  unfold Inp.cells
  rw [hp]
  clear hp
  obtain ⟨w1, hw1⟩ : ∃ w1, w1 = w.alloc (.cells #[.slice x.a1 x.rn.length x.c1, .slice x.a2 x.ra.length x.c2, .slice x.a3 x.wn.length x.c3, .slice x.a4 x.we.length x.c4, .slice x.a5 x.wb.length x.c5, .slice x.a6 x.wa.length x.c6, .int .i64 x.i, .int .i64 p] 59) := ⟨_, rfl⟩
  have L1 : Below w.heap.size w w1 := by rw [hw1]; exact (Below.refl _ _).alloc (Nat.le_refl _) _
  have hbox : w1.heap[w.heap.size]? = some (.cells [Value.slice x.a1 x.rn.length x.c1, .slice x.a2 x.ra.length x.c2, .slice x.a3 x.wn.length x.c3, .slice x.a4 x.we.length x.c4, .slice x.a5 x.wb.length x.c5, .slice x.a6 x.wa.length x.c6, .int .i64 x.i, .int .i64 p].toArray 59 (0, 0)) := by rw [hw1]; exact heap_alloc_new w _
  have HX : Hid (InpOk w1 x) := hx.below L1
  have n1 := hx.n1
  have n3 := hx.n3
  have b0 := cell_at hbox 0
  have b1 := cell_at hbox 1
  have b2 := cell_at hbox 2
  have b3 := cell_at hbox 3
  have b4 := cell_at hbox 4
  have b5 := cell_at hbox 5
  have b6 := cell_at hbox 6
  have b7 := cell_at hbox 7
  simp only [List.getElem?_cons_succ, List.getElem?_cons_zero] at b0 b1 b2 b3 b4 b5 b6 b7
  have HL1 : Hid _ := L1
  have hzw : w.heap.size < w1.heap.size := (Array.getElem?_eq_some_iff.1 hbox).1
  clear hbox L1 hx
  go_enter Try.func45, Try.ntmps45
  go_upto_region 1 with fail
  rw [← hw1]
  clear hw1
  go_upto_block 0 with fail
  go_cut [9, 10] (fun v _ W => PreOk x.wn x.we n e v ∧ W = w1)
  case first => as_aux_lemma =>
    have hx := HX.out
    have L4 : Hid _ := hx.l4
    go_wp2_with fail
    go_loop [9, 10] (fun v j => ∃ k : Nat, k ≤ x.wn.length ∧ v = .int .i64 (-1) ∧ j = .int .i64 ((k : Int) - 1) ∧ ∀ m, k ≤ m → m < x.wn.length → ¬ keyAt x.wn x.we n e m) (fun _ j => (intOf j + 1).toNat)
    case atStart => exact ⟨x.wn.length, Nat.le_refl _, rfl, rfl, fun m h1 h2 => absurd h1 (by omega)⟩
    case round =>
      obtain ⟨k, hk, rfl, rfl, hno⟩ := hrel
      have HN : Hid _ := hno
      clear hno
      cases k with
      | zero =>
        go_wp2
        go_meet
        case rel => exact ⟨.inl ⟨rfl, fun m h => HN.out m (Nat.zero_le _) h⟩, rfl⟩
      | succ k =>
        obtain ⟨g3, o3, ea3, hg3, hc3⟩ := hx.d3.at0 (by omega)
        obtain ⟨g4, o4, ea4, hg4, hc4⟩ := hx.d4.at0 (by rw [L4.out]; omega)
        have hlt : k < x.wn.length := by omega
        have hlt4 : k < x.we.length := by rw [L4.out]; omega
        have e3 := hc3 k hlt
        have e4 := hc4 k hlt4
        rw [ea3] at b2
        rw [ea4] at b3
        have hj : ((k + 1 : Nat) : Int) - 1 = k := by omega
        rw [hj]
        have hki : (k : Int) < (x.wn.length : Int) := by omega
        have hki4 : (k : Int) < (x.we.length : Int) := by omega
        have KE : Hid (keyAt x.wn x.we n e k ↔ x.wn[k] = n ∧ x.we[k] = e) := keyAt_iff hlt hlt4
        clear hc3 hc4 hj HX ea3 ea4 hx L4
        by_cases h1 : x.wn[k] = n
        · have h1b : (x.wn[k].toList == n.toList) = true := by rw [h1]; simp
          by_cases h2 : x.we[k] = e
          · have h2b : (x.we[k] == e) = true := by rw [h2]; simp
            have HM : Hid (PreOk x.wn x.we n e (.int .i64 k)) := .inr ⟨k, rfl, hlt, KE.out.2 ⟨h1, h2⟩, fun m h => HN.out m (by omega)⟩
            clear h1 h2 KE HN
            go_wp2
            go_meet
            case rel => exact ⟨HM.out, rfl⟩
          · have h2b : (x.we[k] == e) = false := by simpa using h2
            have HM : Hid (∀ m, k ≤ m → m < x.wn.length → ¬ keyAt x.wn x.we n e m) := by
              intro m hm hml
              rcases Nat.lt_or_eq_of_le hm with h | rfl
              · exact HN.out m (by omega) hml
              · exact fun h => h2 (KE.out.1 h).2
            clear h1 h2 KE HN
            go_wp2
            go_round
            case rel => exact ⟨k, by omega, rfl, by go_num, HM.out⟩
            case measure => simp [intOf]
        · have h1b : (x.wn[k].toList == n.toList) = false := by rw [teq]; simpa using h1
          have HM : Hid (∀ m, k ≤ m → m < x.wn.length → ¬ keyAt x.wn x.we n e m) := by
            intro m hm hml
            rcases Nat.lt_or_eq_of_le hm with h | rfl
            · exact HN.out m (by omega) hml
            · exact fun h => h1 (KE.out.1 h).1
          clear h1 KE HN
          go_wp2
          go_round
          case rel => exact ⟨k, by omega, rfl, by go_num, HM.out⟩
          case measure => simp [intOf]
  case rest => as_aux_lemma =>
    obtain ⟨hpre, hwc⟩ := hcut
    have HPRE : Hid (PreOk x.wn x.we n e u9) := hpre
    subst hwc
    obtain ⟨w1, hw⟩ : ∃ y, y = wc := ⟨_, rfl⟩
    subst hw
    clear hpre
    go_upto_if 41 with fail
    go_cut [11, 12] (fun v _ W => FqOk x.i p x.rn n e v ∧ W = w1)
    case first => as_aux_lemma =>
      by_cases hei : e = x.i
      case neg =>
        have hb : (e == x.i) = false := by simpa using hei
        have HEI : Hid (¬ e = x.i) := hei
        clear hei
        go_wp2
        go_meet
        case rel => exact ⟨.inl ⟨rfl, .inl HEI.out⟩, rfl⟩
      have hb : (e == x.i) = true := by simpa using hei
      have HEI : Hid (e = x.i) := hei
      clear hei
      go_wp2_with fail
      go_loop [11, 12] (fun v j => ∃ k : Nat, k ≤ p ∧ v = .int .i64 (-1) ∧ j = .int .i64 (k : Int) ∧ ∀ q, q < k → x.rn[q]? ≠ some n) (fun _ j => p - (intOf j).toNat)
      case atStart => exact ⟨0, Nat.zero_le _, rfl, rfl, fun q h => absurd h (by omega)⟩
      case round =>
        obtain ⟨k, hk, rfl, rfl, hno⟩ := hrel
        have HN : Hid _ := hno
        clear hno
        by_cases hkp : k < p
        · obtain ⟨g1, o1, ea1, hg1, hc1⟩ := HX.out.d1.at0 (by omega)
          have hlt : k < x.rn.length := by omega
          have e1 := hc1 k hlt
          rw [ea1] at b0
          have hki : (k : Int) < (x.rn.length : Int) := by omega
          clear hc1 ea1 HX
          by_cases h1 : x.rn[k] = n
          · have h1b : (x.rn[k].toList == n.toList) = true := by rw [h1]; simp
            have HM : Hid (FqOk x.i p x.rn n e (.int .i64 k)) := .inr ⟨k, rfl, HEI.out, hkp, by rw [List.getElem?_eq_getElem hlt, h1], HN.out⟩
            clear h1 HN
            go_wp2
            go_meet
            case rel => exact ⟨HM.out, rfl⟩
          · have h1b : (x.rn[k].toList == n.toList) = false := by rw [teq]; simpa using h1
            have HM : Hid (∀ q, q < k + 1 → x.rn[q]? ≠ some n) := by
              intro m hm
              rcases Nat.lt_or_eq_of_le (Nat.le_of_lt_succ hm) with h | rfl
              · exact HN.out m h
              · rw [List.getElem?_eq_getElem hlt]; simpa using h1
            clear h1 HN
            go_wp2
            go_round
            case rel => exact ⟨k + 1, by omega, rfl, by go_num, HM.out⟩
            case measure => simp [intOf]; omega
        · obtain rfl : k = p := by omega
          go_wp2
          go_meet
          case rel => exact ⟨.inl ⟨rfl, .inr HN.out⟩, rfl⟩
    case rest => as_aux_lemma =>
      obtain ⟨hfq, hwc⟩ := hcut
      subst hwc
      obtain ⟨w1, hw⟩ : ∃ y, y = wc := ⟨_, rfl⟩
      subst hw
      have hx := HX.out
      have L4 : Hid _ := hx.l4
      have L5 : Hid _ := hx.l5
      have L6 : Hid _ := hx.l6
      have L2 : Hid _ := hx.l2
      have HB1 : Hid (Below w.heap.size w w1) := HL1.out
      have HBD : Hid (Below w.heap.size w w1.drew) := bel_drew HL1.out
      rcases HPRE.out with ⟨rfl, hno⟩ | ⟨m, rfl, hm, hkey, hlast⟩
      · have hlf : look (fillM (entL x.wn x.we x.wb x.wa)) n e = none := pre_none L4.out L5.out L6.out hno
        rcases hfq with ⟨rfl, hf⟩ | ⟨q, rfl, hei, hq, hqn, hfirst⟩
        · have HE : Hid (look (wantM x.i p x.rn x.ra (entL x.wn x.we x.wb x.wa)) n e = none) := (fq_none hf).trans hlf
          clear hlf hno hf hx HX HPRE
          go_wp2
          go_ret3
          rw [HE.out]
          exact ⟨rfl, HB1.out⟩
        · have HE : Hid (look (wantM x.i p x.rn x.ra (entL x.wn x.we x.wb x.wa)) n e = some (true, x.ra[q]'(by rw [← L2.out]; omega))) := by
            show _ = _
            rw [hei, fq_some L2.out hpl hq hqn hfirst, ← hei, hlf]; rfl
          obtain ⟨g2, o2, ea2, hg2, hc2⟩ := hx.d2.at0 (by rw [← L2.out]; omega)
          have hlt : q < x.ra.length := by rw [← L2.out]; omega
          have e1 := hc2 q hlt
          rw [ea2] at b1
          have hki : (q : Int) < (x.ra.length : Int) := by omega
          clear hlf hno hc2 ea2 hx HX HPRE hei hqn hfirst
          go_wp2_with fail
          go_region
          all_goals
            go_wp2
            go_ret3
            rw [HE.out]
            exact ⟨rfl, HBD.out⟩
      · have hlf := pre_some (bs := x.wb) (zs := x.wa) L4.out L5.out L6.out hm hkey hlast
        obtain ⟨g5, o5, ea5, hg5, hc5⟩ := hx.d5.at0 (by rw [L5.out]; omega)
        obtain ⟨g6, o6, ea6, hg6, hc6⟩ := hx.d6.at0 (by rw [L6.out]; omega)
        have hlt5 : m < x.wb.length := by rw [L5.out]; omega
        have hlt6 : m < x.wa.length := by rw [L6.out]; omega
        have e5 := hc5 m hlt5
        have e6 := hc6 m hlt6
        rw [ea5] at b4
        rw [ea6] at b5
        have hki5 : (m : Int) < (x.wb.length : Int) := by omega
        have hki6 : (m : Int) < (x.wa.length : Int) := by omega
        rcases hfq with ⟨rfl, hf⟩ | ⟨q, rfl, hei, hq, hqn, hfirst⟩
        · have HE : Hid (look (wantM x.i p x.rn x.ra (entL x.wn x.we x.wb x.wa)) n e = some (x.wb[m], x.wa[m])) := (fq_none hf).trans hlf
          clear hlf hkey hlast hf hx HX HPRE ea5 ea6 hc5 hc6
          go_wp2_with fail
          go_region
          all_goals
            go_wp2
            go_ret3
            rw [HE.out]
            exact ⟨rfl, HBD.out⟩
        · obtain ⟨g2, o2, ea2, hg2, hc2⟩ := hx.d2.at0 (by rw [← L2.out]; omega)
          have hlt : q < x.ra.length := by rw [← L2.out]; omega
          have e1 := hc2 q hlt
          rw [ea2] at b1
          have hki : (q : Int) < (x.ra.length : Int) := by omega
          cases hmine : x.wb[m] with
          | true =>
            have HE : Hid (look (wantM x.i p x.rn x.ra (entL x.wn x.we x.wb x.wa)) n e = some (true, x.wa[m])) := by
              show _ = _
              rw [hei, fq_some L2.out hpl hq hqn hfirst, ← hei, hlf, hmine]; rfl
            clear hlf hkey hlast hx HX HPRE ea5 ea6 hc5 hc6 ea2 hc2 hei hqn hfirst
            go_wp2_with fail
            go_region
            all_goals
              go_wp2
              go_ret3
              rw [HE.out]
              exact ⟨rfl, HBD.out⟩
          | false =>
            have HE : Hid (look (wantM x.i p x.rn x.ra (entL x.wn x.we x.wb x.wa)) n e = some (true, x.ra[q])) := by
              show _ = _
              rw [hei, fq_some L2.out hpl hq hqn hfirst, ← hei, hlf, hmine]; rfl
            clear hlf hkey hlast hx HX HPRE ea5 ea6 hc5 hc6 ea2 hc2 hei hqn hfirst
            go_wp2_with fail
            go_region
            all_goals
              go_wp2
              go_ret3
              rw [HE.out]
              exact ⟨rfl, HBD.out⟩
end Go.Proofs.Qxb6602244a
