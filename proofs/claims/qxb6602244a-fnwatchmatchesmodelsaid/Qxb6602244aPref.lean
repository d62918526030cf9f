/-
  zzWatchedPrefixB1 (32).
-/
import Derived.Test.Qxb6602244aWant
namespace Go.Proofs.Qxb6602244a
open Go.ChangeShapes Go.WideShapes Go.ChangeAt Go.RowKit
set_option linter.unusedVariables false
set_option linter.unusedSimpArgs false

theorem pref_step (nn : Nat) (ra : List Int) (k : Nat) (h : k < ra.length) : ((ra.drop k).takeWhile (fun z => decide (z < (nn : Int)))).length = if ra[k] < (nn : Int) then ((ra.drop (k + 1)).takeWhile (fun z => decide (z < (nn : Int)))).length + 1 else 0 := by
  rw [List.drop_eq_getElem_cons h, List.takeWhile_cons]
  by_cases hk : ra[k] < (nn : Int) <;> simp [hk]

set_option maxHeartbeats 1000000 in
theorem pref_any (nn : Nat) (a : Option Addr) (ra : List Int) (c : Nat) (w : World) (hnn : nn ≤ 9223372036854775807) (hl : ra.length ≤ 9223372036854775807) (hd : Dat (Value.int .i64) w a ra) :
    Calls Try.prog 32 #[.int .i64 nn, .slice a ra.length c] w fun e w' => e = .returned (.int .i64 (prefN nn ra)) ∧ w' = w := by
  by_cases h2 : nn < 2
  · have h2' : (nn : Int) < 2 := by omega
    go_enter Try.func32, Try.ntmps32
    go_wp2
    go_ret
    exact ⟨ret_int (by simp [prefN, h2]), rfl⟩
  · have h2' : ¬ (nn : Int) < 2 := by omega
    have HP : Hid (prefN nn ra = (ra.takeWhile (fun z => decide (z < (nn : Int)))).length) := by show _ = _; rw [prefN, if_neg h2]
    go_enter Try.func32, Try.ntmps32
    go_wp2
    go_loop [5] (fun j => ∃ k : Nat, k ≤ ra.length ∧ j = .int .i64 k ∧ prefN nn ra = k + ((ra.drop k).takeWhile (fun z => decide (z < (nn : Int)))).length) (fun j => ra.length - (intOf j).toNat)
    case atStart => exact ⟨0, Nat.zero_le _, rfl, by rw [HP.out]; simp⟩
    case round =>
      obtain ⟨k, hk, rfl, hh⟩ := hrel
      have HH : Hid _ := hh
      clear hh HP
      by_cases hlt : k < ra.length
      · obtain ⟨b, off, rfl, hb, hc⟩ := hd.at0 (by omega)
        have hck := hc k hlt
        clear hc
        by_cases hz : ra[k] < (nn : Int)
        · have HN : Hid (prefN nn ra = (k + 1) + ((ra.drop (k + 1)).takeWhile (fun z => decide (z < (nn : Int)))).length) := by
            show _ = _
            rw [HH.out, pref_step nn ra k hlt, if_pos hz]; omega
          go_wp2
          go_round
          case rel => exact ⟨k + 1, by omega, by go_num, HN.out⟩
          case measure => simp [intOf]; omega
        · go_wp2
          go_ret
          exact ⟨ret_int (by rw [HH.out, pref_step nn ra k hlt, if_neg (by omega)]; rfl), rfl⟩
      · obtain rfl : k = ra.length := by omega
        go_wp2
        go_ret
        exact ⟨ret_int (by rw [HH.out, List.drop_length]; rfl), rfl⟩
end Go.Proofs.Qxb6602244a
