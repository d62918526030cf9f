/-
  THE WALKS OF skipDigits (18), ZZSkipDigits (13), skipByBackwardScanQb1 (14).
-/
import Derived.Test.Qxb6602135aRows
import Derived.Test.Qxb6602135aPlain
import Derived.WalkKit
import Derived.ProofKit
namespace Go.Proofs.Qxb6602135a
open Go.ChangeShapes Go.WideShapes Go.ChangeAt Go.RowKit
open Plain (skip dg)

theorem ret_int {k : IntKind} {a b : Int} (h : a = b) : Ending.returned (.int k a) = .returned (.int k b) := by rw [h]

set_option maxHeartbeats 400000 in
theorem skip_nat (s : ByteArray) (i : Nat) (w : World) (hs : s.size ≤ maxLen) (hi : i ≤ 9223372036854775807) :
    Calls Try.prog 18 #[.string s, .int .i64 i] w fun e w' => e = .returned (.int .i64 (skip s i)) ∧ w' = w := by
  unfold maxLen at hs
  go_enter Try.func18, Try.ntmps18
  go_wp2
  go_loop [1] (fun v => ∃ j : Nat, v = .int .i64 j ∧ j ≤ 9223372036854775807 ∧ skip s j = skip s i) (fun v => s.size - (intOf v).toNat)
  case atStart => exact ⟨i, rfl, hi, rfl⟩
  case round =>
    obtain ⟨j, rfl, hj, hjs⟩ := hrel
    have HS : Hid (skip s j = skip s i) := hjs
    clear hjs
    by_cases hlt : j < s.size
    · go_wp2
      · go_round
        case rel => exact ⟨j + 1, by go_num, by omega, by rw [← HS.out]; exact (Plain.skip_hit s j hlt (Plain.dg_yes ‹_› ‹_›)).symm⟩
        case measure => simp [intOf]; omega
      · go_ret
        exact ⟨ret_int (by rw [← HS.out, Plain.skip_miss s j hlt (Plain.dg_no (by omega))]), rfl⟩
      · go_ret
        exact ⟨ret_int (by rw [← HS.out, Plain.skip_miss s j hlt (Plain.dg_no (by omega))]), rfl⟩
    · go_wp2
      go_ret
      exact ⟨ret_int (by rw [← HS.out, Plain.skip_past s j (by omega)]), rfl⟩

theorem skip_any (s : ByteArray) (a : Int) (w : World) (hs : s.size ≤ maxLen) (h0 : 0 ≤ a) (h1 : a ≤ 9223372036854775807) :
    Calls Try.prog 18 #[.string s, .int .i64 a] w fun e w' => e = .returned (.int .i64 (skip s a.toNat)) ∧ w' = w := by
  obtain ⟨i, rfl⟩ := Int.eq_ofNat_of_zero_le h0
  rw [Int.toNat_natCast]
  exact skip_nat s i w hs (by omega)

theorem zzskip_any (s : ByteArray) (a : Int) (w : World) (hs : s.size ≤ maxLen) (h0 : 0 ≤ a) (h1 : a ≤ 9223372036854775807) :
    Calls Try.prog 13 #[.string s, .int .i64 a] w fun e w' => e = .returned (.int .i64 (skip s a.toNat)) ∧ w' = w := by
  go_enter Try.func13, Try.ntmps13
  go_wp2_with (go_at_call 18; refine (skip_any _ _ _ hs h0 h1).mono ?_; rintro e w' ⟨rfl, rfl⟩)
  go_ret
  exact ⟨rfl, rfl⟩

/-- the scan from the end: what r holds when the places at or behind j have been seen. -/
theorem back_step (s : ByteArray) (j : Nat) (h : j < s.size) : skip s j = if dg s[j] then skip s (j + 1) else j := by
  by_cases hd : dg s[j] = true
  · rw [if_pos hd]; exact Plain.skip_hit s j h hd
  · rw [if_neg hd]; exact Plain.skip_miss s j h (by simpa using hd)

set_option maxHeartbeats 400000 in
theorem back_nat (s : ByteArray) (i : Nat) (w : World) (hs : s.size ≤ maxLen) (hi : i ≤ 9223372036854775807) :
    Calls Try.prog 14 #[.string s, .int .i64 i] w fun e w' => e = .returned (.int .i64 (skip s i)) ∧ w' = w := by
  unfold maxLen at hs
  by_cases hge : s.size ≤ i
  · have HS : Hid (skip s i = i) := Plain.skip_past s i hge
    go_enter Try.func14, Try.ntmps14
    go_wp2
    go_ret
    exact ⟨ret_int (by rw [HS.out]), rfl⟩
  · go_enter Try.func14, Try.ntmps14
    go_wp2
    go_loop [5, 6] (fun r v => ∃ j : Nat, i ≤ j ∧ j ≤ s.size ∧ v = .int .i64 ((j : Int) - 1) ∧ r = .int .i64 (skip s j)) (fun _ v => (intOf v + 1).toNat)
    case atStart => exact ⟨s.size, by omega, by omega, rfl, by rw [Plain.skip_past s s.size (by omega)]⟩
    case round =>
      obtain ⟨j, hij, hj, rfl, rfl⟩ := hrel
      by_cases hlt : i < j
      · obtain ⟨k, rfl⟩ : ∃ k, j = k + 1 := ⟨j - 1, by omega⟩
        have HS : Hid _ := back_step s k (by omega)
        go_wp2
        all_goals
          go_round
          case rel => first | exact ⟨k, by omega, by omega, rfl, by rw [HS.out, if_pos (Plain.dg_yes (by omega) (by omega))]⟩ | exact ⟨k, by omega, by omega, rfl, by rw [HS.out, if_neg (by rw [Plain.dg_no (by omega)]; decide)]⟩
          case measure => simp [intOf]
      · go_wp2
        go_ret
        obtain rfl : i = j := by omega
        exact ⟨rfl, rfl⟩

theorem back_any (s : ByteArray) (a : Int) (w : World) (hs : s.size ≤ maxLen) (h0 : 0 ≤ a) (h1 : a ≤ 9223372036854775807) :
    Calls Try.prog 14 #[.string s, .int .i64 a] w fun e w' => e = .returned (.int .i64 (skip s a.toNat)) ∧ w' = w := by
  obtain ⟨i, rfl⟩ := Int.eq_ofNat_of_zero_le h0
  rw [Int.toNat_natCast]
  exact back_nat s i w hs (by omega)
end Go.Proofs.Qxb6602135a
