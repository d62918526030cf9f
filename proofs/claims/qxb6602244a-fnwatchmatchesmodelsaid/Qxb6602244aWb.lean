/-
  zzWatchBytesB1 (28); zzBytes_FnWatchMatchesModel (27), zzBytes_FnWatchAgainChangesNothing (34): some bool.
-/
import Derived.Test.Qxb6602244aZzb
namespace Go.Proofs.Qxb6602244a
open Go.ChangeShapes Go.WideShapes Go.ChangeAt Go.RowKit
set_option linter.unusedVariables false

/-- the bounds that the count gives. -/
def CountPost (ns rn : List ByteArray) (wn : List ByteArray) (w : World) (e : Ending) (w' : World) : Prop :=
  (∃ r : Int, e = .returned (.int .i64 r) ∧ 0 ≤ r ∧ r ≤ 1048577 ∧ (r ≤ 1048576 → ns.length ≤ 131072 ∧ rn.length ≤ 131072 ∧ wn.length ≤ 131072)) ∧ w' = w

set_option maxHeartbeats 4000000 in
theorem count_any (a0 a1 a2 a3 a4 a5 a6 : Option Addr) (c0 c1 c2 c3 c4 c5 c6 : Nat) (ns rn : List ByteArray) (ra : List Int) (wn : List ByteArray) (we : List Int) (wb : List Bool) (wa : List Int) (w : World)
    (d0 : Dat Value.string w a0 ns) (d1 : Dat Value.string w a1 rn) (d3 : Dat Value.string w a3 wn) (l0 : ns.length ≤ 9223372036854775807) (l1 : rn.length ≤ 9223372036854775807) (l2 : ra.length ≤ 9223372036854775807) (l3 : wn.length ≤ 9223372036854775807)
    (l4 : we.length ≤ 9223372036854775807) (l5 : wb.length ≤ 9223372036854775807) (l6 : wa.length ≤ 9223372036854775807) (s0 : ∀ s ∈ ns, s.size ≤ 9223372036854775807) (s1 : ∀ s ∈ rn, s.size ≤ 9223372036854775807) (s3 : ∀ s ∈ wn, s.size ≤ 9223372036854775807) :
    Calls Try.prog 28 #[.slice a0 ns.length c0, .slice a1 rn.length c1, .slice a2 ra.length c2, .slice a3 wn.length c3, .slice a4 we.length c4, .slice a5 wb.length c5, .slice a6 wa.length c6] w fun e w' => CountPost ns rn wn w e w' := by
  have t0 := strs_any a0 ns c0 w l0 s0 d0
  have t1 := strs_any a1 rn c1 w l1 s1 d1
  have t3 := strs_any a3 wn c3 w l3 s3 d3
  have HS0 : Hid _ := s0
  clear s0 s1 s3 d0 d1 d3 HS0
  go_enter Try.func28, Try.ntmps28
  go_wp2_with fail
  refine t0.mono ?_
  rintro e w1 ⟨⟨r0, rfl, p0, q0, k0⟩, e1⟩
  subst w1
  have K0 : Hid (r0 ≤ 1048576 → 8 * (ns.length : Int) ≤ r0) := k0
  clear k0 t0
  go_wp2_with fail
  refine t1.mono ?_
  rintro e w1 ⟨⟨b1, rfl, p1, q1, k1⟩, e1⟩
  subst w1
  have K1 : Hid (b1 ≤ 1048576 → 8 * (rn.length : Int) ≤ b1) := k1
  clear k1 t1
  go_wp2_with fail
  refine (plus_any _ _ _ (by omega) (by omega) (by omega) (by omega)).mono ?_
  rintro e w1 ⟨⟨r1, rfl, p1', q1', k1'⟩, e1⟩
  subst w1
  have K1' : Hid (r1 ≤ 1048576 → r1 = r0 + b1) := k1'
  clear k1'
  go_wp2_with fail
  refine (words_any _ _ (by omega) (by omega)).mono ?_
  rintro e w1 ⟨⟨b2, rfl, p2, q2, k2⟩, e1⟩
  subst w1
  clear k2
  go_wp2_with fail
  refine (plus_any _ _ _ (by omega) (by omega) (by omega) (by omega)).mono ?_
  rintro e w1 ⟨⟨r2, rfl, p2', q2', k2'⟩, e1⟩
  subst w1
  have K2' : Hid (r2 ≤ 1048576 → r2 = r1 + b2) := k2'
  clear k2'
  go_wp2_with fail
  refine t3.mono ?_
  rintro e w1 ⟨⟨b3, rfl, p3, q3, k3⟩, e1⟩
  subst w1
  have K3 : Hid (b3 ≤ 1048576 → 8 * (wn.length : Int) ≤ b3) := k3
  clear k3 t3
  go_wp2_with fail
  refine (plus_any _ _ _ (by omega) (by omega) (by omega) (by omega)).mono ?_
  rintro e w1 ⟨⟨r3, rfl, p3', q3', k3'⟩, e1⟩
  subst w1
  have K3' : Hid (r3 ≤ 1048576 → r3 = r2 + b3) := k3'
  clear k3'
  go_wp2_with fail
  refine (words_any _ _ (by omega) (by omega)).mono ?_
  rintro e w1 ⟨⟨b4, rfl, p4, q4, k4⟩, e1⟩
  subst w1
  clear k4
  go_wp2_with fail
  refine (plus_any _ _ _ (by omega) (by omega) (by omega) (by omega)).mono ?_
  rintro e w1 ⟨⟨r4, rfl, p4', q4', k4'⟩, e1⟩
  subst w1
  have K4' : Hid (r4 ≤ 1048576 → r4 = r3 + b4) := k4'
  clear k4'
  go_wp2_with fail
  refine (plus_any _ _ _ (by omega) (by omega) (by omega) (by omega)).mono ?_
  rintro e w1 ⟨⟨r5, rfl, p5', q5', k5'⟩, e1⟩
  subst w1
  have K5' : Hid (r5 ≤ 1048576 → r5 = r4 + wb.length) := k5'
  clear k5'
  go_wp2_with fail
  refine (words_any _ _ (by omega) (by omega)).mono ?_
  rintro e w1 ⟨⟨b6, rfl, p6, q6, k6⟩, e1⟩
  subst w1
  clear k6
  go_wp2_with fail
  refine (plus_any _ _ _ (by omega) (by omega) (by omega) (by omega)).mono ?_
  rintro e w1 ⟨⟨r6, rfl, p6', q6', k6'⟩, e1⟩
  subst w1
  have HE : Hid (r6 ≤ 1048576 → ns.length ≤ 131072 ∧ rn.length ≤ 131072 ∧ wn.length ≤ 131072) := by
    intro h
    have h6 := k6' h
    have h5 := K5'.out (by omega)
    have h4 := K4'.out (by omega)
    have h3 := K3'.out (by omega)
    have h2 := K2'.out (by omega)
    have h1 := K1'.out (by omega)
    have := K0.out (by omega)
    have := K1.out (by omega)
    have := K3.out (by omega)
    omega
  clear k6' K0 K1 K3 K1' K2' K3' K4' K5'
  go_wp2
  go_ret
  unfold CountPost
  exact ⟨⟨r6, rfl, p6', q6', HE.out⟩, rfl⟩

set_option maxHeartbeats 8000000 in
set_option maxRecDepth 100000 in
theorem zzb34_any (a0 a1 a2 a3 a4 a5 a6 : Option Addr) (c0 c1 c2 c3 c4 c5 c6 : Nat) (ns rn : List ByteArray) (ra : List Int) (wn : List ByteArray) (we : List Int) (wb : List Bool) (wa : List Int) (i : Int) (w : World)
    (d0 : Dat Value.string w a0 ns) (d1 : Dat Value.string w a1 rn) (d3 : Dat Value.string w a3 wn) (l0 : ns.length ≤ 9223372036854775807) (l1 : rn.length ≤ 9223372036854775807) (l2 : ra.length ≤ 9223372036854775807) (l3 : wn.length ≤ 9223372036854775807)
    (l4 : we.length ≤ 9223372036854775807) (l5 : wb.length ≤ 9223372036854775807) (l6 : wa.length ≤ 9223372036854775807) (s0 : ∀ s ∈ ns, s.size ≤ 9223372036854775807) (s1 : ∀ s ∈ rn, s.size ≤ 9223372036854775807) (s3 : ∀ s ∈ wn, s.size ≤ 9223372036854775807) :
    Calls Try.prog 34 #[.slice a0 ns.length c0, .slice a1 rn.length c1, .slice a2 ra.length c2, .slice a3 wn.length c3, .slice a4 we.length c4, .slice a5 wb.length c5, .slice a6 wa.length c6, .int .i64 i] w fun e w' => SomeBool e ∧ w' = w := by
  go_enter Try.func34, Try.ntmps34
  go_wp2
  all_goals (try (go_ret; exact ⟨SomeBool.mk _, rfl⟩))
  go_loop [17, 18] (fun t j => ∃ (k : Nat) (z : Int), k ≤ ns.length ∧ j = .int .i64 k ∧ t = .int .i64 z ∧ 0 ≤ z ∧ z ≤ 1048576) (fun _ j => ns.length - (intOf j).toNat)
  case atStart => exact ⟨0, _, Nat.zero_le _, rfl, rfl, by omega, by omega⟩
  case round =>
    skip
    obtain ⟨k, y, hk, rfl, rfl, y0, y1⟩ := hrel
    by_cases hlt : k < ns.length
    · obtain ⟨b, o, rfl, hb, hc⟩ := d0.at0 (by omega)
      have e := hc k hlt
      have sz := s0 _ (List.getElem_mem hlt)
      have hki : (k : Int) < (ns.length : Int) := by omega
      clear hc
      go_wp2
      all_goals (try (go_ret; exact ⟨SomeBool.mk _, rfl⟩))
      go_round
      case rel => exact ⟨k + 1, _, by omega, by go_num, rfl, by omega, by omega⟩
      case measure => simp [intOf]; omega
    · go_wp2
      all_goals (try (go_ret; exact ⟨SomeBool.mk _, rfl⟩))
      go_loop [17, 19] (fun t j => ∃ (k : Nat) (z : Int), k ≤ rn.length ∧ j = .int .i64 k ∧ t = .int .i64 z ∧ 0 ≤ z ∧ z ≤ 1048576) (fun _ j => rn.length - (intOf j).toNat)
      case atStart => exact ⟨0, _, Nat.zero_le _, rfl, rfl, by omega, by omega⟩
      case round =>
        clear y0 y1
        obtain ⟨k, y, hk, rfl, rfl, y0, y1⟩ := hrel
        by_cases hlt : k < rn.length
        · obtain ⟨b, o, rfl, hb, hc⟩ := d1.at0 (by omega)
          have e := hc k hlt
          have sz := s1 _ (List.getElem_mem hlt)
          have hki : (k : Int) < (rn.length : Int) := by omega
          clear hc
          go_wp2
          all_goals (try (go_ret; exact ⟨SomeBool.mk _, rfl⟩))
          go_round
          case rel => exact ⟨k + 1, _, by omega, by go_num, rfl, by omega, by omega⟩
          case measure => simp [intOf]; omega
        · go_wp2
          all_goals (try (go_ret; exact ⟨SomeBool.mk _, rfl⟩))
          go_loop [17, 20] (fun t j => ∃ (k : Nat) (z : Int), k ≤ wn.length ∧ j = .int .i64 k ∧ t = .int .i64 z ∧ 0 ≤ z ∧ z ≤ 1048576) (fun _ j => wn.length - (intOf j).toNat)
          case atStart => exact ⟨0, _, Nat.zero_le _, rfl, rfl, by omega, by omega⟩
          case round =>
            clear y0 y1
            obtain ⟨k, y, hk, rfl, rfl, y0, y1⟩ := hrel
            by_cases hlt : k < wn.length
            · obtain ⟨b, o, rfl, hb, hc⟩ := d3.at0 (by omega)
              have e := hc k hlt
              have sz := s3 _ (List.getElem_mem hlt)
              have hki : (k : Int) < (wn.length : Int) := by omega
              clear hc
              go_wp2
              all_goals (try (go_ret; exact ⟨SomeBool.mk _, rfl⟩))
              go_round
              case rel => exact ⟨k + 1, _, by omega, by go_num, rfl, by omega, by omega⟩
              case measure => simp [intOf]; omega
            · go_wp2
              all_goals (try (go_ret; exact ⟨SomeBool.mk _, rfl⟩))

set_option maxHeartbeats 8000000 in
set_option maxRecDepth 100000 in
theorem zzb27_any (a0 a1 a2 a3 a4 a5 a6 : Option Addr) (c0 c1 c2 c3 c4 c5 c6 : Nat) (ns rn : List ByteArray) (ra : List Int) (wn : List ByteArray) (we : List Int) (wb : List Bool) (wa : List Int) (i : Int) (w : World)
    (d0 : Dat Value.string w a0 ns) (d1 : Dat Value.string w a1 rn) (d3 : Dat Value.string w a3 wn) (l0 : ns.length ≤ 9223372036854775807) (l1 : rn.length ≤ 9223372036854775807) (l2 : ra.length ≤ 9223372036854775807) (l3 : wn.length ≤ 9223372036854775807)
    (l4 : we.length ≤ 9223372036854775807) (l5 : wb.length ≤ 9223372036854775807) (l6 : wa.length ≤ 9223372036854775807) (s0 : ∀ s ∈ ns, s.size ≤ 9223372036854775807) (s1 : ∀ s ∈ rn, s.size ≤ 9223372036854775807) (s3 : ∀ s ∈ wn, s.size ≤ 9223372036854775807) :
    Calls Try.prog 27 #[.slice a0 ns.length c0, .slice a1 rn.length c1, .slice a2 ra.length c2, .slice a3 wn.length c3, .slice a4 we.length c4, .slice a5 wb.length c5, .slice a6 wa.length c6, .int .i64 i] w fun e w' => SomeBool e ∧ w' = w := by
  go_enter Try.func27, Try.ntmps27
  go_wp2
  all_goals (try (go_ret; exact ⟨SomeBool.mk _, rfl⟩))
  go_loop [17, 18] (fun t j => ∃ (k : Nat) (z : Int), k ≤ ns.length ∧ j = .int .i64 k ∧ t = .int .i64 z ∧ 0 ≤ z ∧ z ≤ 1048576) (fun _ j => ns.length - (intOf j).toNat)
  case atStart => exact ⟨0, _, Nat.zero_le _, rfl, rfl, by omega, by omega⟩
  case round =>
    skip
    obtain ⟨k, y, hk, rfl, rfl, y0, y1⟩ := hrel
    by_cases hlt : k < ns.length
    · obtain ⟨b, o, rfl, hb, hc⟩ := d0.at0 (by omega)
      have e := hc k hlt
      have sz := s0 _ (List.getElem_mem hlt)
      have hki : (k : Int) < (ns.length : Int) := by omega
      clear hc
      go_wp2
      all_goals (try (go_ret; exact ⟨SomeBool.mk _, rfl⟩))
      go_round
      case rel => exact ⟨k + 1, _, by omega, by go_num, rfl, by omega, by omega⟩
      case measure => simp [intOf]; omega
    · go_wp2
      all_goals (try (go_ret; exact ⟨SomeBool.mk _, rfl⟩))
      go_loop [17, 19] (fun t j => ∃ (k : Nat) (z : Int), k ≤ rn.length ∧ j = .int .i64 k ∧ t = .int .i64 z ∧ 0 ≤ z ∧ z ≤ 1048576) (fun _ j => rn.length - (intOf j).toNat)
      case atStart => exact ⟨0, _, Nat.zero_le _, rfl, rfl, by omega, by omega⟩
      case round =>
        clear y0 y1
        obtain ⟨k, y, hk, rfl, rfl, y0, y1⟩ := hrel
        by_cases hlt : k < rn.length
        · obtain ⟨b, o, rfl, hb, hc⟩ := d1.at0 (by omega)
          have e := hc k hlt
          have sz := s1 _ (List.getElem_mem hlt)
          have hki : (k : Int) < (rn.length : Int) := by omega
          clear hc
          go_wp2
          all_goals (try (go_ret; exact ⟨SomeBool.mk _, rfl⟩))
          go_round
          case rel => exact ⟨k + 1, _, by omega, by go_num, rfl, by omega, by omega⟩
          case measure => simp [intOf]; omega
        · go_wp2
          all_goals (try (go_ret; exact ⟨SomeBool.mk _, rfl⟩))
          go_loop [17, 20] (fun t j => ∃ (k : Nat) (z : Int), k ≤ wn.length ∧ j = .int .i64 k ∧ t = .int .i64 z ∧ 0 ≤ z ∧ z ≤ 1048576) (fun _ j => wn.length - (intOf j).toNat)
          case atStart => exact ⟨0, _, Nat.zero_le _, rfl, rfl, by omega, by omega⟩
          case round =>
            clear y0 y1
            obtain ⟨k, y, hk, rfl, rfl, y0, y1⟩ := hrel
            by_cases hlt : k < wn.length
            · obtain ⟨b, o, rfl, hb, hc⟩ := d3.at0 (by omega)
              have e := hc k hlt
              have sz := s3 _ (List.getElem_mem hlt)
              have hki : (k : Int) < (wn.length : Int) := by omega
              clear hc
              go_wp2
              all_goals (try (go_ret; exact ⟨SomeBool.mk _, rfl⟩))
              go_round
              case rel => exact ⟨k + 1, _, by omega, by go_num, rfl, by omega, by omega⟩
              case measure => simp [intOf]; omega
            · go_wp2
              all_goals (try (go_ret; exact ⟨SomeBool.mk _, rfl⟩))
end Go.Proofs.Qxb6602244a
