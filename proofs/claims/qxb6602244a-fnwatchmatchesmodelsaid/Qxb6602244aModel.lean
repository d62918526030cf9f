/-
  FnWatchMatchesModel (6): the walk.
-/
import Derived.Test.Qxb6602244aJoin
import Derived.Test.Qxb6602244aOk
namespace Go.Proofs.Qxb6602244a
open Go.ChangeShapes Go.WideShapes Go.ChangeAt Go.RowKit
set_option linter.unusedVariables false
set_option linter.unusedSimpArgs false

def Cpd2 {α : Type} (enc : α → Value) (w : World) (ds : List α) (v : Value) (W : World) : Prop := ∃ a c, v = .slice a ds.length c ∧ Dat enc W a ds ∧ Below w.heap.size w W ∧ ds.length ≤ c
theorem nil_cap {α : Type} {enc : α → Value} {w : World} {ds : List α} {c : Nat} (h : Dat enc w none ds) : ds.length ≤ c := by
  rcases Nat.eq_zero_or_pos ds.length with h0 | h0
  · omega
  · obtain ⟨_, _, e, _⟩ := h.at0 h0
    cases e

set_option maxHeartbeats 16000000 in
set_option maxRecDepth 100000 in
theorem model_any (a0 a1 a2 a3 a4 a5 a6 : Option Addr) (c0 c1 c2 c3 c4 c5 c6 : Nat) (ns rn : List ByteArray) (ra : List Int) (wn : List ByteArray) (we : List Int) (wb : List Bool) (wa : List Int) (i : Int) (w : World)
    (d0 : Dat Value.string w a0 ns) (d1 : Dat Value.string w a1 rn) (d2 : Dat (Value.int .i64) w a2 ra) (d3 : Dat Value.string w a3 wn) (d4 : Dat (Value.int .i64) w a4 we) (d5 : Dat Value.bool w a5 wb) (d6 : Dat (Value.int .i64) w a6 wa)
    (l0 : ns.length ≤ 9223372036854775807) (l1 : rn.length ≤ 9223372036854775807) (l2 : ra.length ≤ 9223372036854775807) (l3 : wn.length ≤ 9223372036854775807)
    (l4 : we.length ≤ 9223372036854775807) (l5 : wb.length ≤ 9223372036854775807) (l6 : wa.length ≤ 9223372036854775807) (s0 : ∀ s ∈ ns, s.size ≤ 9223372036854775807) (s1 : ∀ s ∈ rn, s.size ≤ 9223372036854775807) (s3 : ∀ s ∈ wn, s.size ≤ 9223372036854775807) :
    Calls Try.prog 6 #[.slice a0 ns.length c0, .slice a1 rn.length c1, .slice a2 ra.length c2, .slice a3 wn.length c3, .slice a4 we.length c4, .slice a5 wb.length c5, .slice a6 wa.length c6, .int .i64 i] w fun e w' => e = .returned (.bool true) ∧ Below w.heap.size w w' := by
  have hz := zzb27_any a0 a1 a2 a3 a4 a5 a6 c0 c1 c2 c3 c4 c5 c6 ns rn ra wn we wb wa i w d0 d1 d3 l0 l1 l2 l3 l4 l5 l6 s0 s1 s3
  have hq := count_any a0 a1 a2 a3 a4 a5 a6 c0 c1 c2 c3 c4 c5 c6 ns rn ra wn we wb wa w d0 d1 d3 l0 l1 l2 l3 l4 l5 l6 s0 s1 s3
  clear s0 s1 s3
  have q22 := neq22
  have q43 := neq43
  have q24 := neq24
  go_enter Try.func6, Try.ntmps6
  go_wp2_with fail
  refine hz.mono ?_
  rintro e w1 ⟨⟨b, rfl⟩, e1⟩
  subst w1
  cases b with
  | false => 
    go_wp2
    go_ret
    exact ⟨rfl, Below.refl _ _⟩
  | true =>
  clear hz
  by_cases z0 : (4096 : Int) < (rn.length : Int)
  · clear hq
    go_wp2
    go_ret
    exact ⟨rfl, Below.refl _ _⟩
  by_cases z1 : (4096 : Int) < (ra.length : Int)
  · clear hq
    go_wp2
    go_ret
    exact ⟨rfl, Below.refl _ _⟩
  by_cases z2 : (4096 : Int) < (wn.length : Int)
  · clear hq
    go_wp2
    go_ret
    exact ⟨rfl, Below.refl _ _⟩
  by_cases z3 : (4096 : Int) < (we.length : Int)
  · clear hq
    go_wp2
    go_ret
    exact ⟨rfl, Below.refl _ _⟩
  by_cases z4 : (4096 : Int) < (wb.length : Int)
  · clear hq
    go_wp2
    go_ret
    exact ⟨rfl, Below.refl _ _⟩
  by_cases z5 : (4096 : Int) < (wa.length : Int)
  · clear hq
    go_wp2
    go_ret
    exact ⟨rfl, Below.refl _ _⟩
  go_wp2_with fail
  refine hq.mono ?_
  rintro e w1 ⟨⟨r, rfl, r0, r1, hr⟩, e1⟩
  subst w1
  clear hq z0 z1 z2 z3 z4 z5
  by_cases hcap : 1048576 < r
  · clear hr
    go_wp2
    go_ret
    exact ⟨rfl, Below.refl _ _⟩
  obtain ⟨n0, n1, n3⟩ := hr (by omega)
  clear hr
  by_cases h2 : ra.length = rn.length
  case neg =>
    have g2 : ((ra.length : Int) != (rn.length : Int)) = true := by simp; omega
    go_wp2
    go_ret
    exact ⟨rfl, Below.refl _ _⟩
  have g2 : ((ra.length : Int) != (rn.length : Int)) = false := by simp; omega
  by_cases h4 : we.length = wn.length
  case neg =>
    have g4 : ((we.length : Int) != (wn.length : Int)) = true := by simp; omega
    go_wp2
    go_ret
    exact ⟨rfl, Below.refl _ _⟩
  have g4 : ((we.length : Int) != (wn.length : Int)) = false := by simp; omega
  by_cases h5 : wb.length = wn.length
  case neg =>
    have g5 : ((wb.length : Int) != (wn.length : Int)) = true := by simp; omega
    go_wp2
    go_ret
    exact ⟨rfl, Below.refl _ _⟩
  have g5 : ((wb.length : Int) != (wn.length : Int)) = false := by simp; omega
  by_cases h6 : wa.length = wn.length
  case neg =>
    have g6 : ((wa.length : Int) != (wn.length : Int)) = true := by simp; omega
    go_wp2
    go_ret
    exact ⟨rfl, Below.refl _ _⟩
  have g6 : ((wa.length : Int) != (wn.length : Int)) = false := by simp; omega
  have H2 : Hid _ := h2
  have H4 : Hid _ := h4
  have H5 : Hid _ := h5
  have H6 : Hid _ := h6
  have m2 : ra.length ≤ 131072 := by omega
  have m4 : we.length ≤ 131072 := by omega
  have m5 : wb.length ≤ 131072 := by omega
  have m6 : wa.length ≤ 131072 := by omega
  clear h2 h4 h5 h6 l0 l1 l2 l3 l4 l5 l6

  go_upto_if 101 with fail
  go_cut [0, 17] (fun v _ W => Cpd2 Value.string w ns v W)
  case first => as_aux_lemma =>
    cases a0 with
    | none =>
      go_wp2
      go_meet
      case rel => exact ⟨_, _, rfl, d0, Below.refl _ _, nil_cap d0⟩
    | some ad =>
      have mk := mk_strs ns.length (by omega) w
      have HH : Hid ((w.alloc (.cells (List.replicate ns.length (Value.string ⟨#[]⟩)).toArray 9)).heap[w.heap.size]? = some (.cells (List.replicate ns.length (Value.string ⟨#[]⟩)).toArray 9 (0, 0))) := heap_alloc_new w _
      have HD : Hid (Dat Value.string w (some ad) ns) := d0
      have HB : Hid (Below w.heap.size w (w.alloc (.cells (List.replicate ns.length (Value.string ⟨#[]⟩)).toArray 9))) := (Below.refl _ _).alloc (Nat.le_refl _) _
      clear d0 d1 d2 d3 d4 d5 d6
      go_wp2_with (refine wpList_copy_splice rfl (.tmp 105) (.tmp 106) 22 22 rfl 9 Try.underlying22 size9 _ _ _ _ _ _ rfl rfl w.heap.size 0 (List.replicate ns.length (Value.string ⟨#[]⟩)) 9 HH.out (ns.map Value.string) (cop_n _) (cop_pos HD.out _) (cop_fit _ _) (one_s _) w.heap.size w HB.out (Nat.le_refl _) ?_; intro w6 H6 L6)
      go_meet
      case rel => exact ⟨_, _, rfl, cop_dat H6.out, L6, Nat.le_refl _⟩
  case rest => as_aux_lemma =>
    obtain ⟨a0', c0', hv, e0, L1, kc0⟩ := hcut
    have KC0 : Hid (ns.length ≤ c0') := kc0
    clear kc0
    subst hv
    skip
    clear d0
    have d0 := e0
    replace d1 := d1.below L1
    replace d2 := d2.below L1
    replace d3 := d3.below L1
    replace d4 := d4.below L1
    replace d5 := d5.below L1
    replace d6 := d6.below L1
    have B1 : Below w.heap.size w wc := L1
    clear e0 L1
    obtain ⟨a0, ha⟩ : ∃ y, y = a0' := ⟨_, rfl⟩
    subst ha
    obtain ⟨v1, hw⟩ : ∃ y, y = wc := ⟨_, rfl⟩
    subst hw
    go_upto_if 110 with fail
    go_cut [1, 18] (fun v _ W => Cpd2 Value.string v1 rn v W)
    case first => as_aux_lemma =>
      cases a1 with
      | none =>
        go_wp2
        go_meet
        case rel => exact ⟨_, _, rfl, d1, Below.refl _ _, nil_cap d1⟩
      | some ad =>
        have mk := mk_strs rn.length (by omega) v1
        have HH : Hid ((v1.alloc (.cells (List.replicate rn.length (Value.string ⟨#[]⟩)).toArray 9)).heap[v1.heap.size]? = some (.cells (List.replicate rn.length (Value.string ⟨#[]⟩)).toArray 9 (0, 0))) := heap_alloc_new v1 _
        have HD : Hid (Dat Value.string v1 (some ad) rn) := d1
        have HB : Hid (Below v1.heap.size v1 (v1.alloc (.cells (List.replicate rn.length (Value.string ⟨#[]⟩)).toArray 9))) := (Below.refl _ _).alloc (Nat.le_refl _) _
        clear d0 d1 d2 d3 d4 d5 d6
        go_wp2_with (refine wpList_copy_splice rfl (.tmp 114) (.tmp 115) 22 22 rfl 9 Try.underlying22 size9 _ _ _ _ _ _ rfl rfl v1.heap.size 0 (List.replicate rn.length (Value.string ⟨#[]⟩)) 9 HH.out (rn.map Value.string) (cop_n _) (cop_pos HD.out _) (cop_fit _ _) (one_s _) v1.heap.size v1 HB.out (Nat.le_refl _) ?_; intro w6 H6 L6)
        go_meet
        case rel => exact ⟨_, _, rfl, cop_dat H6.out, L6, Nat.le_refl _⟩
    case rest => as_aux_lemma =>
      obtain ⟨a1', c1', hv, e1, L2, kc1⟩ := hcut
      have KC1 : Hid (rn.length ≤ c1') := kc1
      clear kc1
      subst hv
      skip
      clear d1
      have d1 := e1
      replace d0 := d0.below L2
      replace d2 := d2.below L2
      replace d3 := d3.below L2
      replace d4 := d4.below L2
      replace d5 := d5.below L2
      replace d6 := d6.below L2
      have B2 : Below w.heap.size w wc := B1.trans (L2.mono B1.size)
      clear e1 L2 B1
      obtain ⟨a1, ha⟩ : ∃ y, y = a1' := ⟨_, rfl⟩
      subst ha
      obtain ⟨v2, hw⟩ : ∃ y, y = wc := ⟨_, rfl⟩
      subst hw
      go_upto_if 119 with fail
      go_cut [2, 19] (fun v _ W => Cpd2 (Value.int .i64) v2 ra v W)
      case first => as_aux_lemma =>
        cases a2 with
        | none =>
          go_wp2
          go_meet
          case rel => exact ⟨_, _, rfl, d2, Below.refl _ _, nil_cap d2⟩
        | some ad =>
          have mk := mk_ints ra.length (by omega) v2
          have HH : Hid ((v2.alloc (.cells (List.replicate ra.length (Value.int .i64 0)).toArray 3)).heap[v2.heap.size]? = some (.cells (List.replicate ra.length (Value.int .i64 0)).toArray 3 (0, 0))) := heap_alloc_new v2 _
          have HD : Hid (Dat (Value.int .i64) v2 (some ad) ra) := d2
          have HB : Hid (Below v2.heap.size v2 (v2.alloc (.cells (List.replicate ra.length (Value.int .i64 0)).toArray 3))) := (Below.refl _ _).alloc (Nat.le_refl _) _
          clear d0 d1 d2 d3 d4 d5 d6
          go_wp2_with (refine wpList_copy_splice rfl (.tmp 123) (.tmp 124) 43 43 rfl 3 Try.underlying43 size3 _ _ _ _ _ _ rfl rfl v2.heap.size 0 (List.replicate ra.length (Value.int .i64 0)) 3 HH.out (ra.map (Value.int .i64)) (cop_n _) (cop_pos HD.out _) (cop_fit _ _) (one_i _) v2.heap.size v2 HB.out (Nat.le_refl _) ?_; intro w6 H6 L6)
          go_meet
          case rel => exact ⟨_, _, rfl, cop_dat H6.out, L6, Nat.le_refl _⟩
      case rest => as_aux_lemma =>
        obtain ⟨a2', c2', hv, e2, L3, kc2⟩ := hcut
        have KC2 : Hid (ra.length ≤ c2') := kc2
        clear kc2
        subst hv
        skip
        clear d2
        have d2 := e2
        replace d0 := d0.below L3
        replace d1 := d1.below L3
        replace d3 := d3.below L3
        replace d4 := d4.below L3
        replace d5 := d5.below L3
        replace d6 := d6.below L3
        have B3 : Below w.heap.size w wc := B2.trans (L3.mono B2.size)
        clear e2 L3 B2
        obtain ⟨a2, ha⟩ : ∃ y, y = a2' := ⟨_, rfl⟩
        subst ha
        obtain ⟨v3, hw⟩ : ∃ y, y = wc := ⟨_, rfl⟩
        subst hw
        go_upto_if 128 with fail
        go_cut [3, 20] (fun v _ W => Cpd2 Value.string v3 wn v W)
        case first => as_aux_lemma =>
          cases a3 with
          | none =>
            go_wp2
            go_meet
            case rel => exact ⟨_, _, rfl, d3, Below.refl _ _, nil_cap d3⟩
          | some ad =>
            have mk := mk_strs wn.length (by omega) v3
            have HH : Hid ((v3.alloc (.cells (List.replicate wn.length (Value.string ⟨#[]⟩)).toArray 9)).heap[v3.heap.size]? = some (.cells (List.replicate wn.length (Value.string ⟨#[]⟩)).toArray 9 (0, 0))) := heap_alloc_new v3 _
            have HD : Hid (Dat Value.string v3 (some ad) wn) := d3
            have HB : Hid (Below v3.heap.size v3 (v3.alloc (.cells (List.replicate wn.length (Value.string ⟨#[]⟩)).toArray 9))) := (Below.refl _ _).alloc (Nat.le_refl _) _
            clear d0 d1 d2 d3 d4 d5 d6
            go_wp2_with (refine wpList_copy_splice rfl (.tmp 132) (.tmp 133) 22 22 rfl 9 Try.underlying22 size9 _ _ _ _ _ _ rfl rfl v3.heap.size 0 (List.replicate wn.length (Value.string ⟨#[]⟩)) 9 HH.out (wn.map Value.string) (cop_n _) (cop_pos HD.out _) (cop_fit _ _) (one_s _) v3.heap.size v3 HB.out (Nat.le_refl _) ?_; intro w6 H6 L6)
            go_meet
            case rel => exact ⟨_, _, rfl, cop_dat H6.out, L6, Nat.le_refl _⟩
        case rest => as_aux_lemma =>
          obtain ⟨a3', c3', hv, e3, L4, kc3⟩ := hcut
          have KC3 : Hid (wn.length ≤ c3') := kc3
          clear kc3
          subst hv
          skip
          clear d3
          have d3 := e3
          replace d0 := d0.below L4
          replace d1 := d1.below L4
          replace d2 := d2.below L4
          replace d4 := d4.below L4
          replace d5 := d5.below L4
          replace d6 := d6.below L4
          have B4 : Below w.heap.size w wc := B3.trans (L4.mono B3.size)
          clear e3 L4 B3
          obtain ⟨a3, ha⟩ : ∃ y, y = a3' := ⟨_, rfl⟩
          subst ha
          obtain ⟨v4, hw⟩ : ∃ y, y = wc := ⟨_, rfl⟩
          subst hw
          go_upto_if 137 with fail
          go_cut [4, 21] (fun v _ W => Cpd2 (Value.int .i64) v4 we v W)
          case first => as_aux_lemma =>
            cases a4 with
            | none =>
              go_wp2
              go_meet
              case rel => exact ⟨_, _, rfl, d4, Below.refl _ _, nil_cap d4⟩
            | some ad =>
              have mk := mk_ints we.length (by omega) v4
              have HH : Hid ((v4.alloc (.cells (List.replicate we.length (Value.int .i64 0)).toArray 3)).heap[v4.heap.size]? = some (.cells (List.replicate we.length (Value.int .i64 0)).toArray 3 (0, 0))) := heap_alloc_new v4 _
              have HD : Hid (Dat (Value.int .i64) v4 (some ad) we) := d4
              have HB : Hid (Below v4.heap.size v4 (v4.alloc (.cells (List.replicate we.length (Value.int .i64 0)).toArray 3))) := (Below.refl _ _).alloc (Nat.le_refl _) _
              clear d0 d1 d2 d3 d4 d5 d6
              go_wp2_with (refine wpList_copy_splice rfl (.tmp 141) (.tmp 142) 43 43 rfl 3 Try.underlying43 size3 _ _ _ _ _ _ rfl rfl v4.heap.size 0 (List.replicate we.length (Value.int .i64 0)) 3 HH.out (we.map (Value.int .i64)) (cop_n _) (cop_pos HD.out _) (cop_fit _ _) (one_i _) v4.heap.size v4 HB.out (Nat.le_refl _) ?_; intro w6 H6 L6)
              go_meet
              case rel => exact ⟨_, _, rfl, cop_dat H6.out, L6, Nat.le_refl _⟩
          case rest => as_aux_lemma =>
            obtain ⟨a4', c4', hv, e4, L5, kc4⟩ := hcut
            have KC4 : Hid (we.length ≤ c4') := kc4
            clear kc4
            subst hv
            skip
            clear d4
            have d4 := e4
            replace d0 := d0.below L5
            replace d1 := d1.below L5
            replace d2 := d2.below L5
            replace d3 := d3.below L5
            replace d5 := d5.below L5
            replace d6 := d6.below L5
            have B5 : Below w.heap.size w wc := B4.trans (L5.mono B4.size)
            clear e4 L5 B4
            obtain ⟨a4, ha⟩ : ∃ y, y = a4' := ⟨_, rfl⟩
            subst ha
            obtain ⟨v5, hw⟩ : ∃ y, y = wc := ⟨_, rfl⟩
            subst hw
            go_upto_if 146 with fail
            go_cut [5, 22] (fun v _ W => Cpd2 Value.bool v5 wb v W)
            case first => as_aux_lemma =>
              cases a5 with
              | none =>
                go_wp2
                go_meet
                case rel => exact ⟨_, _, rfl, d5, Below.refl _ _, nil_cap d5⟩
              | some ad =>
                have mk := mk_bools wb.length (by omega) v5
                have HH : Hid ((v5.alloc (.cells (List.replicate wb.length (Value.bool false)).toArray 4)).heap[v5.heap.size]? = some (.cells (List.replicate wb.length (Value.bool false)).toArray 4 (0, 0))) := heap_alloc_new v5 _
                have HD : Hid (Dat Value.bool v5 (some ad) wb) := d5
                have HB : Hid (Below v5.heap.size v5 (v5.alloc (.cells (List.replicate wb.length (Value.bool false)).toArray 4))) := (Below.refl _ _).alloc (Nat.le_refl _) _
                clear d0 d1 d2 d3 d4 d5 d6
                go_wp2_with (refine wpList_copy_splice rfl (.tmp 150) (.tmp 151) 24 24 rfl 4 Try.underlying24 size4 _ _ _ _ _ _ rfl rfl v5.heap.size 0 (List.replicate wb.length (Value.bool false)) 4 HH.out (wb.map Value.bool) (cop_n _) (cop_pos HD.out _) (cop_fit _ _) (one_b _) v5.heap.size v5 HB.out (Nat.le_refl _) ?_; intro w6 H6 L6)
                go_meet
                case rel => exact ⟨_, _, rfl, cop_dat H6.out, L6, Nat.le_refl _⟩
            case rest => as_aux_lemma =>
              obtain ⟨a5', c5', hv, e5, L6, kc5⟩ := hcut
              have KC5 : Hid (wb.length ≤ c5') := kc5
              clear kc5
              subst hv
              skip
              clear d5
              have d5 := e5
              replace d0 := d0.below L6
              replace d1 := d1.below L6
              replace d2 := d2.below L6
              replace d3 := d3.below L6
              replace d4 := d4.below L6
              replace d6 := d6.below L6
              have B6 : Below w.heap.size w wc := B5.trans (L6.mono B5.size)
              clear e5 L6 B5
              obtain ⟨a5, ha⟩ : ∃ y, y = a5' := ⟨_, rfl⟩
              subst ha
              obtain ⟨v6, hw⟩ : ∃ y, y = wc := ⟨_, rfl⟩
              subst hw
              go_upto_if 155 with fail
              go_cut [6, 23] (fun v _ W => Cpd2 (Value.int .i64) v6 wa v W)
              case first => as_aux_lemma =>
                cases a6 with
                | none =>
                  go_wp2
                  go_meet
                  case rel => exact ⟨_, _, rfl, d6, Below.refl _ _, nil_cap d6⟩
                | some ad =>
                  have mk := mk_ints wa.length (by omega) v6
                  have HH : Hid ((v6.alloc (.cells (List.replicate wa.length (Value.int .i64 0)).toArray 3)).heap[v6.heap.size]? = some (.cells (List.replicate wa.length (Value.int .i64 0)).toArray 3 (0, 0))) := heap_alloc_new v6 _
                  have HD : Hid (Dat (Value.int .i64) v6 (some ad) wa) := d6
                  have HB : Hid (Below v6.heap.size v6 (v6.alloc (.cells (List.replicate wa.length (Value.int .i64 0)).toArray 3))) := (Below.refl _ _).alloc (Nat.le_refl _) _
                  clear d0 d1 d2 d3 d4 d5 d6
                  go_wp2_with (refine wpList_copy_splice rfl (.tmp 159) (.tmp 160) 43 43 rfl 3 Try.underlying43 size3 _ _ _ _ _ _ rfl rfl v6.heap.size 0 (List.replicate wa.length (Value.int .i64 0)) 3 HH.out (wa.map (Value.int .i64)) (cop_n _) (cop_pos HD.out _) (cop_fit _ _) (one_i _) v6.heap.size v6 HB.out (Nat.le_refl _) ?_; intro w6 H6 L6)
                  go_meet
                  case rel => exact ⟨_, _, rfl, cop_dat H6.out, L6, Nat.le_refl _⟩
              case rest => as_aux_lemma =>
                obtain ⟨a6', c6', hv, e6, L7, kc6⟩ := hcut
                have KC6 : Hid (wa.length ≤ c6') := kc6
                clear kc6
                subst hv
                skip
                clear d6
                have d6 := e6
                replace d0 := d0.below L7
                replace d1 := d1.below L7
                replace d2 := d2.below L7
                replace d3 := d3.below L7
                replace d4 := d4.below L7
                replace d5 := d5.below L7
                have B7 : Below w.heap.size w wc := B6.trans (L7.mono B6.size)
                clear e6 L7 B6
                obtain ⟨a6, ha⟩ : ∃ y, y = a6' := ⟨_, rfl⟩
                subst ha
                obtain ⟨v7, hw⟩ : ∃ y, y = wc := ⟨_, rfl⟩
                subst hw
                have hatt := newAtt_any a0 a1 a2 c0' c1' c2' ns rn ra v7 d0 d1 d2 (by omega) H2.out.symm (by omega)
                go_wp2_with fail
                refine hatt.mono ?_
                intro e w1 hP
                obtain ⟨ab, BA, rb, rfl, hab, hA, L1⟩ := hP
                clear hatt d0
                have hnew := new_any (.pointer none) (.inl rfl) none none none none none 0 0 0 0 0 [] [] [] false 0 [] [] w1 (dat_nil _ _ _) (dat_nil _ _ _) (dat_nil _ _ _) (dat_nil _ _ _) (dat_nil _ _ _) rfl rfl (by simp) (by simp) (by simp) (by simp)
                have HA1 : Hid _ := hA
                clear hA
                go_wp2_with fail
                refine hnew.mono ?_
                intro e w2 hP
                obtain ⟨sb, wk, wm, hsb, hwm, rfl, L2, hSc, hM, hrest⟩ := hP
                obtain ⟨vm, dm, hs2, hx1, hx2⟩ := hSc.ex
                clear hrest hx1 hx2 hnew hSc
                have hA2 := HA1.out.keepC (KeepsC.below L2)
                have hal : ab < w1.heap.size := by obtain ⟨_, _, _, _, _, _, hb, _⟩ := HA1.out.ex; exact (Array.getElem?_eq_some_iff.1 hb).1
                have hz1 := L1.size
                have hz2 := L2.size
                have hne : ab ≠ w2.heap.size := by omega
                have hwm' : v7.heap.size ≤ wm := by omega
                have M2 : Below v7.heap.size v7 w2 := L1.trans (L2.mono L1.size)
                obtain ⟨cs, hcs⟩ : ∃ cs : List Value, cs = [.pointer none, .map (some vm), .slice none 0 0, .slice none 0 0, .map none, .map (some wm), wk, .slice none 0 0, .map none, .map (some dm)] := ⟨_, rfl⟩
                have hs2' : w2.heap[sb]? = some (.cells cs.toArray 87 (0, 0)) := by rw [hcs]; exact hs2
                have hc5 : cs[5]? = some (.map (some wm)) := by rw [hcs]; rfl
                have HC5 : Hid _ := hc5
                clear hcs hs2
                have hfill := fill_any v7 sb wm ab cs a3 a4 a5 a6 c3' c4' c5' c6' wn we wb wa w2 hs2' hc5 hM M2 hwm' d3 d4 d5 d6 H4.out H5.out H6.out (by omega)
                have HS2 : Hid _ := hs2'
                have HA2 : Hid _ := hA2
                have HM2 : Hid _ := M2
                clear hs2' hA2 M2 hM hc5 HA1
                go_wp2_with fail
                refine hfill.mono ?_
                rintro e w3 ⟨rfl, F⟩
                obtain ⟨f, hWt⟩ := F.ex
                have hA3 := HA2.out.keepC F.keep
                have hS3 : St v7 w3 sb wm ab w2.heap.size cs (fillM (entL wn we wb wa)) := ⟨F.bel, F.keep _ _ _ _ HS2.out, F.ex, _, F.oth⟩
                have hab3 : ∃ ca, w3.heap[ab]? = some (.cells ca 71 (0, 0)) := by obtain ⟨_, _, _, _, _, _, hb, _⟩ := hA3.ex; exact ⟨_, hb⟩
                have hzl : (rn.zip ra).length ≤ 1048576 := by simp; omega
                have hwatch := zzwatch_any v7 sb wm ab w2.heap.size BA ns.length i cs f (fillM (entL wn we wb wa)) (rn.zip ra) rb _ w3 (F.keep _ _ _ _ HS2.out) HC5.out hWt F.bel hwm' hab hA3 hzl (by omega) F.oth hne
                have HS3 : Hid _ := hS3
                have HAB3 : Hid _ := hab3
                have hz3 := F.size
                have hao : ab < w2.heap.size := by omega
                generalize w2.heap.size = ob at hne HS3 hwatch hz3 hao
                clear hfill F hWt hA3 hS3 hab3 HA2 HS2 HM2
                go_wp2_with fail
                refine hwatch.mono ?_
                intro e w4 hP
                obtain ⟨ca3, hca3⟩ := HAB3.out
                have hS4 := HS3.out.watched hca3 hP hne
                obtain ⟨rfl, _, _, _, hz4, na, nc, un, nx, ch, hb4⟩ := hP
                generalize hMM : watchM ns.length i (rn.zip ra) (fillM (entL wn we wb wa)) = M at hS4
                have HMM : Hid (watchM ns.length i (rn.zip ra) (fillM (entL wn we wb wa)) = M) := hMM
                have HMA : Hid (watchM ns.length i (rn.zip ra) M = M) := by rw [← hMM]; exact watch_again _ _ _ _
                have HB4 : Hid _ := hb4
                have HS4 : Hid _ := hS4
                clear hwatch HS3 HAB3 hca3 hMM hb4
                have hnil := readsNil_any ab ns.length na nc un nx ch w4 HB4.out
                have hpref := pref_any ns.length a2 ra c2' w4 (by omega) (by omega) (d2.below HS4.out.bel)
                obtain ⟨p, hp⟩ : ∃ p, p = prefN ns.length ra := ⟨_, rfl⟩
                have hpl : p ≤ rn.length := by rw [hp, ← H2.out]; exact prefN_le _ _
                have HPM : Hid (wantM i p rn ra (entL wn we wb wa) = M) := by
                  show _ = _
                  rw [hp, ← want_watch _ _ _ _ _ H2.out.symm]; exact HMM.out
                rw [← hp] at hpref
                clear hp HMM HMA hS4
                go_wp2_with fail
                refine hnil.mono ?_
                rintro e w5 ⟨rfl, hw5⟩
                subst w5
                clear hnil
                go_wp2_with fail
                refine hpref.mono ?_
                rintro e w5 ⟨rfl, hw5⟩
                subst w5
                clear hpref
                go_upto_region 44 with (first | refine wpList_build59 rfl _ _ _ _ _ _ _ _ rfl _ _ _ _ _ _ _ _ _ _ _ _ _ _ _ _ _ _ _ _ rfl rfl rfl rfl rfl rfl rfl rfl ?_ | refine wpList_alloc59 rfl rfl ?_ | refine wpList_store59 rfl _ _ rfl _ _ _ _ _ _ _ _ _ _ _ _ _ _ _ _ _ _ _ _ rfl rfl ?_)
                obtain ⟨w5, hw5⟩ : ∃ w5, w5 = w4.alloc (.cells #[.slice a1 rn.length c1', .slice a2 ra.length c2', .slice a3 wn.length c3', .slice a4 we.length c4', .slice a5 wb.length c5', .slice a6 wa.length c6', .int .i64 i, .int .i64 (p : Int)] 59) := ⟨_, rfl⟩
                rw [← hw5]
                have L5 : Below w4.heap.size w4 w5 := by rw [hw5]; exact (Below.refl _ _).alloc (Nat.le_refl _) _
                have hbx5 : w5.heap[w4.heap.size]? = some (.cells #[.slice a1 rn.length c1', .slice a2 ra.length c2', .slice a3 wn.length c3', .slice a4 we.length c4', .slice a5 wb.length c5', .slice a6 wa.length c6', .int .i64 i, .int .i64 (p : Int)] 59 (0, 0)) := by rw [hw5]; exact heap_alloc_new w4 _
                have hS5 := HS4.out.on L5
                have hb5 := KeepsC.below L5 _ _ _ _ HB4.out
                obtain ⟨f5, hW5⟩ := hS5.wat
                obtain ⟨co5, hO5⟩ := hS5.oth
                have hX : InpOk v7 ⟨a1, a2, a3, a4, a5, a6, c1', c2', c3', c4', c5', c6', rn, ra, wn, we, wb, wa, i, (p : Int)⟩ := ⟨d1, d2, d3, d4, d5, d6, H2.out.symm, H4.out, H5.out, H6.out, n1, n3⟩
                have hok := ok_any v7.heap.size sb wm ab ob cs _ co5 f5 M ⟨a1, a2, a3, a4, a5, a6, c1', c2', c3', c4', c5', c6', rn, ra, wn, we, wb, wa, i, (p : Int)⟩ p w5 (hX.below hS5.bel) rfl hpl KC1.out KC3.out hS5.sc HC5.out hW5 hb5 hO5 hne HPM.out
                have hload := load59 w5 w4.heap.size _ _ _ _ _ _ _ _ _ _ _ _ _ _ _ _ _ _ _ _ hbx5
                have HF : Hid (Below w.heap.size w w5) := B7.trans (hS5.bel.mono B7.size)
                clear hX hS5 hb5 hbx5 HS4 HB4 hW5 hO5 L5 hw5 d1 d2 d3 d4 d5 d6 B7 HPM
                go_wp2_with (refine wpList_unbox rfl _ rfl _ _ rfl hload ?_)
                refine hok.mono ?_
                rintro e w6 ⟨rfl, hb6⟩
                have HF6 : Hid (Below w.heap.size w w6) := HF.out.trans (hb6.mono HF.out.size)
                clear hok hb6 HF hload
                go_wp2
                go_ret
                exact ⟨rfl, HF6.out⟩
end Go.Proofs.Qxb6602244a
