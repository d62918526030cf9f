/-
  zzWantLenB1 (48).
-/
import Derived.Test.Qxb6602244aWantW
import Derived.BigQuiet
namespace Go.Proofs.Qxb6602244a
open Go.ChangeShapes Go.WideShapes Go.ChangeAt Go.RowKit
set_option linter.unusedVariables false
set_option linter.unusedSimpArgs false

/-- has, where the slice was cut. -/
theorem has_cut (a : Option Addr) (ss : List ByteArray) (k cap : Nat) (x : ByteArray) (w : World) (hn : ss.length ≤ 9223372036854775807) (hk : k ≤ ss.length) (hd : Dat Value.string w a ss) :
    Calls Try.prog 20 #[.slice a k cap, .string x] w fun e w' => e = .returned (.bool (has (ss.take k) x)) ∧ w' = w := by
  have hl : (ss.take k).length = k := by simp; omega
  have hd' : Dat Value.string w a (ss.take k) := by
    refine ⟨fun hp => ?_⟩
    rw [hl] at hp
    obtain ⟨b, off, e, hlt, hc⟩ := hd.at0 (by omega)
    refine ⟨b, off, e, hlt, fun i hi => ?_⟩
    rw [hl] at hi
    rw [hc i (by omega), List.getElem_take]
  have := has_any a (ss.take k) cap x w (by omega) hd'
  rw [hl] at this
  exact this

section
variable {ns : List ByteArray} {es : List Int} {bs : List Bool} {zs : List Int} {n : ByteArray}
/-- the entries up to k, laid. -/
def upto (ns : List ByteArray) (es : List Int) (bs : List Bool) (zs : List Int) (k : Nat) : Wms := fillM ((entL ns es bs zs).take k)
theorem upto_zero : upto ns es bs zs 0 = [] := rfl
theorem upto_full {k : Nat} (h : (entL ns es bs zs).length ≤ k) : upto ns es bs zs k = fillM (entL ns es bs zs) := by rw [upto, List.take_of_length_le h]
theorem upto_succ {k : Nat} (h0 : k < ns.length) (h1 : k < es.length) (h2 : k < bs.length) (h3 : k < zs.length) : upto ns es bs zs (k + 1) = put (upto ns es bs zs k) ns[k] es[k] (bs[k], zs[k]) := by
  rw [upto, entL_snoc ns es bs zs k h0 h1 h2 h3, fill_snoc]; rfl
theorem upto_no {k : Nat} {e : Int} (h1 : es.length = ns.length) (h2 : bs.length = ns.length) (h3 : zs.length = ns.length) (h : ∀ m, m < k → ¬ keyAt ns es n e m) : look (upto ns es bs zs k) n e = none := by
  apply look_fill_none
  intro y hy
  obtain ⟨m, hm, rfl⟩ := List.getElem_of_mem hy
  simp only [List.length_take, entL_len ns es bs zs h1 h2 h3] at hm
  rw [List.getElem_take, entL_at ns es bs zs m (by omega) (by omega) (by omega) (by omega)]
  have := h m (by omega)
  rw [keyAt_iff (by omega) (by omega)] at this
  exact this
theorem upto_yes {k m : Nat} {e : Int} (h1 : es.length = ns.length) (h2 : bs.length = ns.length) (h3 : zs.length = ns.length) (hm : m < k) (hl : m < ns.length) (h : keyAt ns es n e m) : (look (upto ns es bs zs k) n e).isSome = true := by
  apply look_fill_some
  have hlen := entL_len ns es bs zs h1 h2 h3
  refine ⟨(ns[m], es[m]'(by omega), bs[m]'(by omega), zs[m]'(by omega)), ?_, ?_⟩
  · rw [← entL_at ns es bs zs m hl (by omega) (by omega) (by omega) (by omega)]
    rw [List.mem_take_iff_getElem]
    exact ⟨m, by omega, rfl⟩
  · rw [keyAt_iff hl (by omega)] at h
    exact h
theorem upto_len_le (k : Nat) : 0 ≤ lenOf (upto ns es bs zs k) n ∧ lenOf (upto ns es bs zs k) n ≤ k := by
  have := lenOf_le ((entL ns es bs zs).take k) n
  refine ⟨this.1, Int.le_trans this.2 ?_⟩
  simp only [List.length_take]; omega
end

/-- the state of the outer loop. -/
structure Wl (x : Inp) (n : ByteArray) (k : Nat) (v h : Value) : Prop where
  hv : v = .int .i64 (lenOf (upto x.wn x.we x.wb x.wa k) n)
  hh : h = .bool (look (upto x.wn x.we x.wb x.wa k) n x.i).isSome

set_option maxHeartbeats 4000000 in
set_option maxRecDepth 100000 in
theorem wantL_any (x : Inp) (p : Nat) (n : ByteArray) (w : World) (hx : InpOk w x) (hp : x.p = p) (hpl : p ≤ x.rn.length) (hcp : x.rn.length ≤ x.c1) :
    Calls Try.prog 48 #[.agg x.cells.toArray, .string n] w fun r w' => r = .returned (.int .i64 (lenOf (wantM x.i p x.rn x.ra (entL x.wn x.we x.wb x.wa)) n)) ∧ Below w.heap.size w w' := by
  unfold Inp.cells
  rw [hp]
  clear hp
  obtain ⟨w1, hw1⟩ : ∃ w1, w1 = w.alloc (.cells #[.slice x.a1 x.rn.length x.c1, .slice x.a2 x.ra.length x.c2, .slice x.a3 x.wn.length x.c3, .slice x.a4 x.we.length x.c4, .slice x.a5 x.wb.length x.c5, .slice x.a6 x.wa.length x.c6, .int .i64 x.i, .int .i64 p] 59) := ⟨_, rfl⟩
  have L1 : Below w.heap.size w w1 := by rw [hw1]; exact (Below.refl _ _).alloc (Nat.le_refl _) _
  have hbox : w1.heap[w.heap.size]? = some (.cells [Value.slice x.a1 x.rn.length x.c1, .slice x.a2 x.ra.length x.c2, .slice x.a3 x.wn.length x.c3, .slice x.a4 x.we.length x.c4, .slice x.a5 x.wb.length x.c5, .slice x.a6 x.wa.length x.c6, .int .i64 x.i, .int .i64 p].toArray 59 (0, 0)) := by rw [hw1]; exact heap_alloc_new w _
  have HX : Hid (InpOk w1 x) := hx.below L1
  have n1 := hx.n1
  have n3 := hx.n3
  have b0 := cell_at hbox 0
  have b2 := cell_at hbox 2
  have b3 := cell_at hbox 3
  have b6 := cell_at hbox 6
  have b7 := cell_at hbox 7
  simp only [List.getElem?_cons_succ, List.getElem?_cons_zero] at b0 b2 b3 b6 b7
  have HL1 : Hid _ := L1
  have hzw : w.heap.size < w1.heap.size := (Array.getElem?_eq_some_iff.1 hbox).1
  have L4 : Hid _ := hx.l4
  have L5 : Hid _ := hx.l5
  have L6 : Hid _ := hx.l6
  have L2 : Hid _ := hx.l2
  clear hbox L1 hx
  go_enter Try.func48, Try.ntmps48
  go_upto_region 1 with fail
  rw [← hw1]
  clear hw1
  go_wp2_with fail
  go_loopw [5, 6, 7] (fun v h j wr => ∃ k q : Nat, k ≤ x.wn.length ∧ j = .int .i64 k ∧ wr = w1.drewN q ∧ Wl x n k v h) (fun _ _ j _ => x.wn.length - (intOf j).toNat)
  case atStart => exact ⟨0, 0, Nat.zero_le _, rfl, rfl, ⟨rfl, rfl⟩⟩
  case round =>
    obtain ⟨k, q, hk, rfl, rfl, R⟩ := hrel
    obtain ⟨rfl, rfl⟩ := R
    obtain ⟨lv, hlv⟩ : ∃ z, z = lenOf (upto x.wn x.we x.wb x.wa k) n := ⟨_, rfl⟩
    obtain ⟨hv, hhv⟩ : ∃ z, z = (look (upto x.wn x.we x.wb x.wa k) n x.i).isSome := ⟨_, rfl⟩
    rw [← hlv, ← hhv]
    have hle := upto_len_le (ns := x.wn) (es := x.we) (bs := x.wb) (zs := x.wa) (n := n) k
    rw [← hlv] at hle
    obtain ⟨hle0, hle1⟩ := hle
    have HLV : Hid (lv = lenOf (upto x.wn x.we x.wb x.wa k) n) := hlv
    have HHV : Hid (hv = (look (upto x.wn x.we x.wb x.wa k) n x.i).isSome) := hhv
    clear hlv hhv
    by_cases hlt : k < x.wn.length
    · have hlt4 : k < x.we.length := by rw [L4.out]; omega
      obtain ⟨g3, o3, ea3, hg3, hc3⟩ := HX.out.d3.at0 (by omega)
      obtain ⟨g4, o4, ea4, hg4, hc4⟩ := HX.out.d4.at0 (by omega)
      have e3 := hc3 k hlt
      have e4 := hc4 k hlt4
      rw [ea3] at b2
      rw [ea4] at b3
      have hki : (k : Int) < (x.wn.length : Int) := by omega
      have hki4 : (k : Int) < (x.we.length : Int) := by omega
      have HC3 : Hid (∀ m, (h : m < x.wn.length) → w1.cell? ⟨g3, o3 + m, none⟩ = some (.string x.wn[m])) := hc3
      have HC4 : Hid (∀ m, (h : m < x.we.length) → w1.cell? ⟨g4, o4 + m, none⟩ = some (.int .i64 x.we[m])) := hc4
      have HS : Hid (upto x.wn x.we x.wb x.wa (k + 1) = put (upto x.wn x.we x.wb x.wa k) x.wn[k] x.we[k] (x.wb[k]'(by rw [L5.out]; omega), x.wa[k]'(by rw [L6.out]; omega))) := upto_succ hlt hlt4 _ _
      clear hc3 hc4 ea3 ea4 HX
      by_cases h1 : x.wn[k] = n
      case neg =>
        have h1b : (x.wn[k].toList == n.toList) = false := by rw [teq]; simpa using h1
        have h1c : (x.wn[k].toList != n.toList) = true := by simp only [bne, h1b]; rfl
        have HR : Hid (Wl x n (k + 1) (.int .i64 lv) (.bool hv)) := by
          refine ⟨?_, ?_⟩
          · rw [HLV.out, HS.out, lenOf_put, if_neg (fun h => h1 h.1), Int.add_zero]
          · rw [HHV.out, HS.out, look_put, if_neg (fun h => h1 h.1)]
        clear h1
        go_wp2
        go_roundw
        case rel => exact ⟨k + 1, q, by omega, by go_num, rfl, HR.out⟩
        case measure => simp [intOf]; omega
      have h1b : (x.wn[k].toList == n.toList) = true := by rw [h1]; simp
      have h1c : (x.wn[k].toList != n.toList) = false := by simp only [bne, h1b]; rfl
      have H1 : Hid (x.wn[k] = n) := h1
      clear h1
      go_upto_region 7 with fail
      go_cut [31] (fun c W => c = .bool (x.we[k] == x.i) ∧ ∃ r, W = w1.drewN r)
      case first => as_aux_lemma =>
        go_quiet (fail)
        go_wp2
        go_meet
        case rel => exact ⟨rfl, _, World.drewN_drewN _ _ _⟩
      case rest => as_aux_lemma =>
        obtain ⟨rfl, q1, hwc⟩ := hcut
        subst hwc
        go_upto_if 31 with fail
        go_cut [6] (fun h W => h = .bool (look (upto x.wn x.we x.wb x.wa (k + 1)) n x.i).isSome ∧ W = w1.drewN q1)
        case first => as_aux_lemma =>
          by_cases h2 : x.we[k] = x.i
          · have h2b : (x.we[k] == x.i) = true := by simpa using h2
            have HM : Hid ((look (upto x.wn x.we x.wb x.wa (k + 1)) n x.i).isSome = true) := by
              show _ = _
              rw [HS.out, look_put, if_pos ⟨H1.out, h2⟩]; rfl
            clear h2
            go_wp2
            go_meet
            case rel => exact ⟨by rw [HM.out], rfl⟩
          · have h2b : (x.we[k] == x.i) = false := by simpa using h2
            have HM : Hid ((look (upto x.wn x.we x.wb x.wa (k + 1)) n x.i).isSome = hv) := by
              show _ = _
              rw [HHV.out, HS.out, look_put, if_neg (fun h => h2 h.2)]
            clear h2
            go_wp2
            go_meet
            case rel => exact ⟨by rw [HM.out], rfl⟩
        case rest => as_aux_lemma =>
          obtain ⟨hu, hwc⟩ := hcut
          subst hwc
          obtain ⟨hv2, hhv2⟩ : ∃ z, z = (look (upto x.wn x.we x.wb x.wa (k + 1)) n x.i).isSome := ⟨_, rfl⟩
          have HHV2 : Hid (hv2 = (look (upto x.wn x.we x.wb x.wa (k + 1)) n x.i).isSome) := hhv2
          rw [← hhv2] at hu
          subst hu
          clear hhv2
          go_upto_block 2 with fail
          go_cut [8, 9] (fun d _ W => d = .bool (look (upto x.wn x.we x.wb x.wa k) n x.we[k]).isSome ∧ ∃ r, W = w1.drewN r)
          case first => as_aux_lemma =>
            go_wp2_with fail
            go_loopw [8, 9] (fun d j wr => ∃ m r : Nat, m ≤ k ∧ d = .bool false ∧ j = .int .i64 m ∧ wr = w1.drewN r ∧ ∀ t, t < m → ¬ keyAt x.wn x.we n x.we[k] t) (fun _ j _ => k - (intOf j).toNat)
            case atStart => exact ⟨0, q1, Nat.zero_le _, rfl, rfl, rfl, fun t h => absurd h (by omega)⟩
            case round =>
              obtain ⟨m, r, hm, rfl, rfl, rfl, hno⟩ := hrel
              have HN : Hid _ := hno
              clear hno
              by_cases hmk : m < k
              · have hml : m < x.wn.length := by omega
                have hml4 : m < x.we.length := by omega
                have f3 := HC3.out m hml
                have f4 := HC4.out m hml4
                have hmi : (m : Int) < (x.wn.length : Int) := by omega
                have hmi4 : (m : Int) < (x.we.length : Int) := by omega
                have KE : Hid (keyAt x.wn x.we n x.we[k] m ↔ x.wn[m] = n ∧ x.we[m] = x.we[k]) := keyAt_iff hml hml4
                by_cases g1 : x.wn[m] = n
                · have g1b : (x.wn[m].toList == n.toList) = true := by rw [g1]; simp
                  by_cases g2 : x.we[m] = x.we[k]
                  · have g2b : (x.we[m] == x.we[k]) = true := by simpa using g2
                    have HM : Hid ((look (upto x.wn x.we x.wb x.wa k) n x.we[k]).isSome = true) := upto_yes L4.out L5.out L6.out hmk hml (KE.out.2 ⟨g1, g2⟩)
                    clear g1 g2 KE HN
                    go_wp2_with fail
                    go_quiet (fail)
                    go_wp2
                    go_meet
                    case rel => exact ⟨by rw [HM.out], _, World.drewN_drewN _ _ _⟩
                  · have g2b : (x.we[m] == x.we[k]) = false := by simpa using g2
                    have HM : Hid (∀ t, t < m + 1 → ¬ keyAt x.wn x.we n x.we[k] t) := by
                      intro t ht
                      rcases Nat.lt_or_eq_of_le (Nat.le_of_lt_succ ht) with h | rfl
                      · exact HN.out t h
                      · exact fun h => g2 (KE.out.1 h).2
                    clear g1 g2 KE HN
                    go_wp2_with fail
                    go_quiet (fail)
                    go_wp2
                    go_roundw
                    case rel => exact ⟨m + 1, _, by omega, rfl, by go_num, rfl, HM.out⟩
                    case measure => simp [intOf]; omega
                · have g1b : (x.wn[m].toList == n.toList) = false := by rw [teq]; simpa using g1
                  have HM : Hid (∀ t, t < m + 1 → ¬ keyAt x.wn x.we n x.we[k] t) := by
                    intro t ht
                    rcases Nat.lt_or_eq_of_le (Nat.le_of_lt_succ ht) with h | rfl
                    · exact HN.out t h
                    · exact fun h => g1 (KE.out.1 h).1
                  clear g1 KE HN
                  go_wp2_with fail
                  go_quiet (fail)
                  go_wp2
                  go_roundw
                  case rel => exact ⟨m + 1, _, by omega, rfl, by go_num, rfl, HM.out⟩
                  case measure => simp [intOf]; omega
              · obtain rfl : m = k := by omega
                have HM : Hid ((look (upto x.wn x.we x.wb x.wa m) n x.we[m]).isSome = false) := by
                  show _ = _
                  rw [upto_no L4.out L5.out L6.out HN.out]; rfl
                go_wp2
                go_meet
                case rel => exact ⟨by rw [HM.out], _, rfl⟩
          case rest => as_aux_lemma =>
            obtain ⟨hd, r, hwc⟩ := hcut
            subst hwc
            cases hdup : look (upto x.wn x.we x.wb x.wa k) n x.we[k] with
            | none =>
              rw [hdup] at hd
              have hd' : u8 = .bool false := hd
              subst hd'
              have HR : Hid (Wl x n (k + 1) (.int .i64 (lv + 1)) (.bool hv2)) := by
                refine ⟨?_, by rw [HHV2.out]⟩
                rw [HLV.out, HS.out, lenOf_put, if_pos ⟨H1.out, hdup⟩]
              clear hdup hd
              go_wp2
              go_roundw
              case rel => exact ⟨k + 1, _, by omega, by go_num, rfl, HR.out⟩
              case measure => simp [intOf]; omega
            | some v =>
              rw [hdup] at hd
              have hd' : u8 = .bool true := hd
              subst hd'
              have HR : Hid (Wl x n (k + 1) (.int .i64 lv) (.bool hv2)) := by
                refine ⟨?_, by rw [HHV2.out]⟩
                rw [HLV.out, HS.out, lenOf_put, if_neg (fun h => by rw [hdup] at h; cases h.2), Int.add_zero]
              clear hdup hd
              go_wp2
              go_roundw
              case rel => exact ⟨k + 1, _, by omega, by go_num, rfl, HR.out⟩
              case measure => simp [intOf]; omega
    · obtain rfl : k = x.wn.length := by omega
      have hfull : upto x.wn x.we x.wb x.wa x.wn.length = fillM (entL x.wn x.we x.wb x.wa) := upto_full (by rw [entL_len _ _ _ _ L4.out L5.out L6.out]; exact Nat.le_refl _)
      have hmap : ((x.rn.zip x.ra).take p).map (·.1) = x.rn.take p := by rw [List.map_take, List.map_fst_zip (Nat.le_of_eq L2.out)]
      have hlen : lenOf (wantM x.i p x.rn x.ra (entL x.wn x.we x.wb x.wa)) n = lv + (if hv = false ∧ has (x.rn.take p) n = true then 1 else 0) := by
        rw [wantM, lenOf_fold, hmap, ← hfull, ← HLV.out, HHV.out]
        cases look (upto x.wn x.we x.wb x.wa x.wn.length) n x.i <;> simp
      have HLEN : Hid (lenOf (wantM x.i p x.rn x.ra (entL x.wn x.we x.wb x.wa)) n = lv + (if hv = false ∧ has (x.rn.take p) n = true then 1 else 0)) := hlen
      clear hfull hmap hlen HLV HHV
      cases hv with
      | true =>
        have HE : Hid (lenOf (wantM x.i p x.rn x.ra (entL x.wn x.we x.wb x.wa)) n = lv) := by show _ = _; rw [HLEN.out, if_neg (fun h => by cases h.1), Int.add_zero]
        clear HLEN
        go_wp2
        go_ret
        rw [HE.out]
        exact ⟨rfl, bel_drewN HL1.out _⟩
      | false =>
        have hi0 : (0 : Int) ≤ p := by omega
        have hi1 : (p : Int) ≤ (x.c1 : Int) := by omega
        have hcall := has_cut x.a1 x.rn p x.c1 n (w1.drewN q) (by omega) hpl (HX.out.d1.drewN q)
        have HT : Hid (has (x.rn.take p) n = true → lenOf (wantM x.i p x.rn x.ra (entL x.wn x.we x.wb x.wa)) n = lv + 1) := fun hh => by rw [HLEN.out, if_pos ⟨rfl, hh⟩]
        have HF : Hid (has (x.rn.take p) n = false → lenOf (wantM x.i p x.rn x.ra (entL x.wn x.we x.wb x.wa)) n = lv) := fun hh => by rw [HLEN.out, if_neg (fun h => by rw [hh] at h; cases h.2), Int.add_zero]
        clear HX HLEN
        go_wp2_with fail
        refine hcall.mono ?_
        rintro e w2 ⟨rfl, rfl⟩
        clear hcall
        cases hh : has (x.rn.take p) n with
        | true =>
          have HE : Hid (lenOf (wantM x.i p x.rn x.ra (entL x.wn x.we x.wb x.wa)) n = lv + 1) := HT.out hh
          clear HT HF hh
          go_wp2
          go_ret
          rw [HE.out]
          exact ⟨rfl, bel_drewN HL1.out _⟩
        | false =>
          have HE : Hid (lenOf (wantM x.i p x.rn x.ra (entL x.wn x.we x.wb x.wa)) n = lv) := HF.out hh
          clear HT HF hh
          go_wp2
          go_ret
          rw [HE.out]
          exact ⟨rfl, bel_drewN HL1.out _⟩
end Go.Proofs.Qxb6602244a
