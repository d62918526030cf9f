/-
  zzWantNamesB1 (50).
-/
import Derived.Test.Qxb6602244aWantL
namespace Go.Proofs.Qxb6602244a
open Go.ChangeShapes Go.WideShapes Go.ChangeAt Go.RowKit
set_option linter.unusedVariables false
set_option linter.unusedSimpArgs false

section
variable {ns : List ByteArray} {es : List Int} {bs : List Bool} {zs : List Int}
theorem entL_fst (h1 : es.length = ns.length) (h2 : bs.length = ns.length) (h3 : zs.length = ns.length) : (entL ns es bs zs).map (·.1) = ns := by
  unfold entL
  rw [List.map_fst_zip]
  simp only [List.length_zip]; omega
theorem upto_get (h1 : es.length = ns.length) (h2 : bs.length = ns.length) (h3 : zs.length = ns.length) (k : Nat) (n : ByteArray) : (get (upto ns es bs zs k) n).isSome = has (ns.take k) n := by
  rw [upto, get_fill, List.map_take, entL_fst h1 h2 h3]
theorem upto_length (h1 : es.length = ns.length) (h2 : bs.length = ns.length) (h3 : zs.length = ns.length) {k : Nat} (h : k < ns.length) : (upto ns es bs zs (k + 1)).length = (upto ns es bs zs k).length + (if has (ns.take k) ns[k] then 0 else 1) := by
  rw [upto_succ h (by omega) (by omega) (by omega), put_len, upto_get h1 h2 h3]
theorem upto_length_le (h1 : es.length = ns.length) (h2 : bs.length = ns.length) (h3 : zs.length = ns.length) : ∀ k, k ≤ ns.length → (upto ns es bs zs k).length ≤ k := by
  intro k
  induction k with
  | zero => intro _; exact Nat.le_refl _
  | succ k ih =>
    intro h
    rw [upto_length h1 h2 h3 (by omega)]
    have := ih (by omega)
    split <;> omega
variable {rn : List ByteArray} {ra : List Int} {i : Int}
theorem want_length (h1 : es.length = ns.length) (h2 : bs.length = ns.length) (h3 : zs.length = ns.length) (h : rn.length = ra.length) {q : Nat} (hq : q < rn.length) :
    (wantM i (q + 1) rn ra (entL ns es bs zs)).length = (wantM i q rn ra (entL ns es bs zs)).length + (if has ns rn[q] || has (rn.take q) rn[q] then 0 else 1) := by
  have hz : q < (rn.zip ra).length := by simp; omega
  have e : wantM i (q + 1) rn ra (entL ns es bs zs) = wstep i (wantM i q rn ra (entL ns es bs zs)) (rn[q], ra[q]'(by omega)) := by
    unfold wantM
    rw [List.take_succ_eq_append_getElem hz, List.foldl_append, List.getElem_zip]; rfl
  rw [e, wstep_len]
  have hg : (get (wantM i q rn ra (entL ns es bs zs)) rn[q]).isSome = (has ns rn[q] || has (rn.take q) rn[q]) := by
    unfold wantM
    rw [get_fold, get_fill, entL_fst h1 h2 h3, List.map_take, List.map_fst_zip (Nat.le_of_eq h)]
  simp only [hg]
theorem want_length_le (h1 : es.length = ns.length) (h2 : bs.length = ns.length) (h3 : zs.length = ns.length) (h : rn.length = ra.length) : ∀ q, q ≤ rn.length → (wantM i q rn ra (entL ns es bs zs)).length ≤ ns.length + q := by
  intro q
  induction q with
  | zero =>
    intro _
    have := upto_length_le h1 h2 h3 ns.length (Nat.le_refl _)
    rw [upto_full (by rw [entL_len _ _ _ _ h1 h2 h3]; exact Nat.le_refl _)] at this
    exact this
  | succ q ih =>
    intro hq
    rw [want_length h1 h2 h3 h (by omega)]
    have := ih (by omega)
    split <;> omega
end

set_option maxHeartbeats 4000000 in
set_option maxRecDepth 100000 in
theorem wantN_any (x : Inp) (p : Nat) (w : World) (hx : InpOk w x) (hp : x.p = p) (hpl : p ≤ x.rn.length) (hcp : x.rn.length ≤ x.c1) (hcw : x.wn.length ≤ x.c3) :
    Calls Try.prog 50 #[.agg x.cells.toArray] w fun r w' => r = .returned (.int .i64 (wantM x.i p x.rn x.ra (entL x.wn x.we x.wb x.wa)).length) ∧ Below w.heap.size w w' := by
  unfold Inp.cells
  rw [hp]
  clear hp
  obtain ⟨w1, hw1⟩ : ∃ w1, w1 = w.alloc (.cells #[.slice x.a1 x.rn.length x.c1, .slice x.a2 x.ra.length x.c2, .slice x.a3 x.wn.length x.c3, .slice x.a4 x.we.length x.c4, .slice x.a5 x.wb.length x.c5, .slice x.a6 x.wa.length x.c6, .int .i64 x.i, .int .i64 p] 59) := ⟨_, rfl⟩
  have L1 : Below w.heap.size w w1 := by rw [hw1]; exact (Below.refl _ _).alloc (Nat.le_refl _) _
  have hbox : w1.heap[w.heap.size]? = some (.cells [Value.slice x.a1 x.rn.length x.c1, .slice x.a2 x.ra.length x.c2, .slice x.a3 x.wn.length x.c3, .slice x.a4 x.we.length x.c4, .slice x.a5 x.wb.length x.c5, .slice x.a6 x.wa.length x.c6, .int .i64 x.i, .int .i64 p].toArray 59 (0, 0)) := by rw [hw1]; exact heap_alloc_new w _
  have HX : Hid (InpOk w1 x) := hx.below L1
  have n1 := hx.n1
  have n3 := hx.n3
  have b0 := cell_at hbox 0
  have b2 := cell_at hbox 2
  have b7 := cell_at hbox 7
  simp only [List.getElem?_cons_succ, List.getElem?_cons_zero] at b0 b2 b7
  have HL1 : Hid _ := L1
  have hzw : w.heap.size < w1.heap.size := (Array.getElem?_eq_some_iff.1 hbox).1
  have L4 : Hid _ := hx.l4
  have L5 : Hid _ := hx.l5
  have L6 : Hid _ := hx.l6
  have L2 : Hid _ := hx.l2
  clear hbox L1 hx
  go_enter Try.func50, Try.ntmps50
  go_upto_region 1 with fail
  rw [← hw1]
  clear hw1
  go_wp2_with fail
  go_loopw [3, 4] (fun v j wr => ∃ k q : Nat, k ≤ x.wn.length ∧ j = .int .i64 k ∧ wr = w1.drewN q ∧ v = .int .i64 ((upto x.wn x.we x.wb x.wa k).length : Nat)) (fun _ j _ => x.wn.length - (intOf j).toNat)
  case atStart => exact ⟨0, 0, Nat.zero_le _, rfl, rfl, rfl⟩
  case round =>
    obtain ⟨k, q, hk, rfl, hwr, rfl⟩ := hrel
    have HWR : Hid (wr = w1.drewN q) := hwr
    have HXW : Hid (InpOk wr x) := by rw [hwr]; exact HX.out.below (bel_drewN (Below.refl _ _) q)
    have HBW : Hid (Below w.heap.size w wr) := by rw [hwr]; exact bel_drewN HL1.out q
    have c2 : wr.cell? ⟨w.heap.size, 2, none⟩ = some (Value.slice x.a3 x.wn.length x.c3) := by rw [hwr]; exact b2
    have c7 : wr.cell? ⟨w.heap.size, 7, none⟩ = some (Value.int .i64 p) := by rw [hwr]; exact b7
    have hzr : w.heap.size < wr.heap.size := by rw [hwr]; exact hzw
    clear hwr
    have hle := upto_length_le L4.out L5.out L6.out k hk
    obtain ⟨lv, hlv⟩ : ∃ z : Nat, z = (upto x.wn x.we x.wb x.wa k).length := ⟨_, rfl⟩
    rw [← hlv] at hle ⊢
    have HLV : Hid (lv = (upto x.wn x.we x.wb x.wa k).length) := hlv
    clear hlv
    by_cases hlt : k < x.wn.length
    · obtain ⟨g3, o3, ea3, hg3, hc3⟩ := HXW.out.d3.at0 (by omega)
      have e3 := hc3 k hlt
      have hd3 := HXW.out.d3
      rw [ea3] at c2 hd3
      have hki : (k : Int) < (x.wn.length : Int) := by omega
      have hkc : (k : Int) ≤ (x.c3 : Int) := by omega
      have hcall := fun r => has_cut (some ⟨g3, o3, none⟩) x.wn k x.c3 x.wn[k] (wr.drewN r) (by omega) hk (hd3.drewN r)
      clear hc3 ea3 HX hd3 HXW b0 b2 b7
      cases hh : has (x.wn.take k) x.wn[k] with
      | true =>
        have HR : Hid (lv = (upto x.wn x.we x.wb x.wa (k + 1)).length) := by show _ = _; rw [upto_length L4.out L5.out L6.out hlt, hh, HLV.out]; rfl
        rw [hh] at hcall
        clear hh
        go_wp2_with fail
        go_quiet ((go_at_call 20; exact Calls.quiet_of_same (hcall _)))
        go_wp2
        go_roundw
        case rel => exact ⟨k + 1, _, by omega, by go_num, by rw [HWR.out, World.drewN_drewN], by rw [← HR.out]⟩
        case measure => simp [intOf]; omega
      | false =>
        have HR : Hid (lv + 1 = (upto x.wn x.we x.wb x.wa (k + 1)).length) := by show _ = _; rw [upto_length L4.out L5.out L6.out hlt, hh, HLV.out]; rfl
        rw [hh] at hcall
        clear hh
        go_wp2_with fail
        go_quiet ((go_at_call 20; exact Calls.quiet_of_same (hcall _)))
        go_wp2
        go_roundw
        case rel => exact ⟨k + 1, _, by omega, by go_num, by rw [HWR.out, World.drewN_drewN], by rw [← HR.out]; go_num⟩
        case measure => simp [intOf]; omega
    · obtain rfl : k = x.wn.length := by omega
      have h0 : lv = (wantM x.i 0 x.rn x.ra (entL x.wn x.we x.wb x.wa)).length := by
        rw [HLV.out, upto_full (by rw [entL_len _ _ _ _ L4.out L5.out L6.out]; exact Nat.le_refl _)]; rfl
      have H0 : Hid _ := h0
      clear h0 HLV
      obtain ⟨wo, hwo⟩ : ∃ y, y = wr := ⟨_, rfl⟩
      subst hwo
      go_wp2_with fail
      go_loopw [3, 5] (fun v j wr => ∃ t r : Nat, t ≤ p ∧ j = .int .i64 t ∧ wr = w1.drewN r ∧ v = .int .i64 ((wantM x.i t x.rn x.ra (entL x.wn x.we x.wb x.wa)).length : Nat)) (fun _ j _ => p - (intOf j).toNat)
      case atStart => exact ⟨0, q, Nat.zero_le _, rfl, HWR.out, by rw [← H0.out]⟩
      case round =>
        clear H0 hle HWR HXW HBW c2 c7 hzr
        obtain ⟨t, r, ht, rfl, hwr, rfl⟩ := hrel
        have HWR : Hid (wr = w1.drewN r) := hwr
        have HXW : Hid (InpOk wr x) := by rw [hwr]; exact HX.out.below (bel_drewN (Below.refl _ _) r)
        have HBW : Hid (Below w.heap.size w wr) := by rw [hwr]; exact bel_drewN HL1.out r
        have c0 : wr.cell? ⟨w.heap.size, 0, none⟩ = some (Value.slice x.a1 x.rn.length x.c1) := by rw [hwr]; exact b0
        have c2 : wr.cell? ⟨w.heap.size, 2, none⟩ = some (Value.slice x.a3 x.wn.length x.c3) := by rw [hwr]; exact b2
        have c7 : wr.cell? ⟨w.heap.size, 7, none⟩ = some (Value.int .i64 p) := by rw [hwr]; exact b7
        have hzr : w.heap.size < wr.heap.size := by rw [hwr]; exact hzw
        clear hwr
        have hle := want_length_le (i := x.i) L4.out L5.out L6.out L2.out t (by omega)
        obtain ⟨mv, hmv⟩ : ∃ z : Nat, z = (wantM x.i t x.rn x.ra (entL x.wn x.we x.wb x.wa)).length := ⟨_, rfl⟩
        rw [← hmv] at hle ⊢
        have HMV : Hid (mv = (wantM x.i t x.rn x.ra (entL x.wn x.we x.wb x.wa)).length) := hmv
        clear hmv
        by_cases htp : t < p
        · have hlt : t < x.rn.length := by omega
          obtain ⟨g1, o1, ea1, hg1, hc1⟩ := HXW.out.d1.at0 (by omega)
          have e1 := hc1 t hlt
          have hd1 := HXW.out.d1
          rw [ea1] at c0 hd1
          have hki : (t : Int) < (x.rn.length : Int) := by omega
          have hkc : (t : Int) ≤ (x.c1 : Int) := by omega
          have hcA := fun s => has_any x.a3 x.wn x.c3 x.rn[t] (wr.drewN s) (by omega) (HXW.out.d3.drewN s)
          have hcB := fun s => has_cut (some ⟨g1, o1, none⟩) x.rn t x.c1 x.rn[t] (wr.drewN s) (by omega) (by omega) (hd1.drewN s)
          have hst := want_length (i := x.i) L4.out L5.out L6.out L2.out hlt
          rw [← HMV.out] at hst
          clear hc1 ea1 HX hd1 HMV HXW b0 b2 b7
          cases hA : has x.wn x.rn[t] with
          | true =>
            rw [hA] at hst hcA
            have HR : Hid (mv = (wantM x.i (t + 1) x.rn x.ra (entL x.wn x.we x.wb x.wa)).length) := by show _ = _; rw [hst]; rfl
            clear hA hst hcB
            go_wp2_with fail
            go_quiet ((go_at_call 20; exact Calls.quiet_of_same (hcA _)))
            go_wp2
            go_roundw
            case rel => exact ⟨t + 1, _, by omega, by go_num, by rw [HWR.out, World.drewN_drewN], by rw [← HR.out]⟩
            case measure => simp [intOf]; omega
          | false =>
            rw [hA] at hst hcA
            cases hB : has (x.rn.take t) x.rn[t] with
            | true =>
              rw [hB] at hst hcB
              have HR : Hid (mv = (wantM x.i (t + 1) x.rn x.ra (entL x.wn x.we x.wb x.wa)).length) := by show _ = _; rw [hst]; rfl
              clear hA hst hB
              go_wp2_with fail
              go_quiet ((go_at_call 20; first | with_reducible exact Calls.quiet_of_same (hcA _) | with_reducible exact Calls.quiet_of_same (hcB _) | exact Calls.quiet_of_same (hcB _)))
              go_wp2
              go_roundw
              case rel => exact ⟨t + 1, _, by omega, by go_num, by rw [HWR.out, World.drewN_drewN], by rw [← HR.out]⟩
              case measure => simp [intOf]; omega
            | false =>
              rw [hB] at hst hcB
              have HR : Hid (mv + 1 = (wantM x.i (t + 1) x.rn x.ra (entL x.wn x.we x.wb x.wa)).length) := by show _ = _; rw [hst]; rfl
              clear hA hst hB
              go_wp2_with fail
              go_quiet ((go_at_call 20; first | with_reducible exact Calls.quiet_of_same (hcA _) | with_reducible exact Calls.quiet_of_same (hcB _) | exact Calls.quiet_of_same (hcB _)))
              go_wp2
              go_roundw
              case rel => exact ⟨t + 1, _, by omega, by go_num, by rw [HWR.out, World.drewN_drewN], by rw [← HR.out]; go_num⟩
              case measure => simp [intOf]; omega
        · obtain rfl : t = p := by omega
          go_wp2
          go_ret
          rw [← HMV.out]
          exact ⟨rfl, HBW.out⟩
end Go.Proofs.Qxb6602244a
