/-
  zzBytes_FnLookupMatchesChainModel (15): it answers SOME bool, and turns nothing.
-/
import Derived.Test.Qxb6602244aFrames
namespace Go.Proofs.Qxb6602244a
open Go.ChangeShapes Go.WideShapes Go.ChangeAt Go.RowKit
set_option linter.unusedVariables false

def SomeBool (e : Ending) : Prop := ∃ b, e = .returned (.bool b)
theorem SomeBool.mk (b : Bool) : SomeBool (.returned (.bool b)) := ⟨b, rfl⟩

set_option maxHeartbeats 8000000 in
set_option maxRecDepth 100000 in
theorem zzb15_any (a : Option Addr) (fs : List Fr) (cap : Nat) (name : ByteArray) (w : World) (hF : Frames w a fs) (hnm : name.size ≤ 9223372036854775807) :
    Calls Try.prog 15 #[.slice a fs.length cap, .string name] w fun e w' => SomeBool e ∧ w' = w := by
  have hn := hF.len
  go_enter Try.func15, Try.ntmps15
  go_wp2
  all_goals (try (go_ret; exact ⟨SomeBool.mk _, rfl⟩))
  go_loop [5, 6] (fun t j => ∃ (k : Nat) (z : Int), k ≤ fs.length ∧ j = .int .i64 k ∧ t = .int .i64 z ∧ 0 ≤ z ∧ z ≤ 1048576) (fun _ j => fs.length - (intOf j).toNat)
  case atStart => exact ⟨0, _, Nat.zero_le _, rfl, rfl, by omega, by omega⟩
  case round =>
    obtain ⟨k, z, hk, rfl, rfl, z0, z1⟩ := hrel
    by_cases hlt : k < fs.length
    · obtain ⟨b, off, rfl, hb, hc⟩ := hF.at0 (by omega)
      have hD := hF.each fs[k] (List.getElem_mem hlt)
      obtain ⟨k0, k1, k2, k3, k4, k5, k6⟩ := hc k hlt
      have hki : (k : Int) < (fs.length : Int) := by omega
      have l1 := hD.l1
      have l2 := hD.l2
      have l3 := hD.l3
      have l6 := hD.l6
      have l7 := hD.l7
      clear hc hF
      go_wp2
      all_goals (try (go_ret; exact ⟨SomeBool.mk _, rfl⟩))
      go_loop [5, 7] (fun t j => ∃ (i : Nat) (y : Int), i ≤ fs[k].vn.length ∧ j = .int .i64 i ∧ t = .int .i64 y ∧ 0 ≤ y ∧ y ≤ 1048576) (fun _ j => fs[k].vn.length - (intOf j).toNat)
      case atStart => exact ⟨0, _, Nat.zero_le _, rfl, rfl, by omega, by omega⟩
      case round =>
        obtain ⟨i, y, hi, rfl, rfl, y0, y1⟩ := hrel
        by_cases hil : i < fs[k].vn.length
        · obtain ⟨b1, o1, e1, hb1, hc1⟩ := hD.d1.at0 (by omega)
          rw [e1] at k0
          have d1 := hc1 i hil
          have s1 := hD.s1 _ (List.getElem_mem hil)
          have hii : (i : Int) < (fs[k].vn.length : Int) := by omega
          clear hc1 e1
          go_wp2
          all_goals (try (go_ret; exact ⟨SomeBool.mk _, rfl⟩))
          go_round
          case rel => exact ⟨i + 1, _, by omega, by go_num, rfl, by omega, by omega⟩
          case measure => simp [intOf]; omega
        · go_wp2
          all_goals (try (go_ret; exact ⟨SomeBool.mk _, rfl⟩))
          go_loop [5, 8] (fun t j => ∃ (i : Nat) (y : Int), i ≤ fs[k].dc.length ∧ j = .int .i64 i ∧ t = .int .i64 y ∧ 0 ≤ y ∧ y ≤ 1048576) (fun _ j => fs[k].dc.length - (intOf j).toNat)
          case atStart => exact ⟨0, _, Nat.zero_le _, rfl, rfl, by omega, by omega⟩
          case round =>
            clear y0 y1
            obtain ⟨i, y, hi, rfl, rfl, y0, y1⟩ := hrel
            by_cases hil : i < fs[k].dc.length
            · obtain ⟨b1, o1, e1, hb1, hc1⟩ := hD.d3.at0 (by omega)
              rw [e1] at k2
              have d1 := hc1 i hil
              have s1 := hD.s3 _ (List.getElem_mem hil)
              have hii : (i : Int) < (fs[k].dc.length : Int) := by omega
              clear hc1 e1
              go_wp2
              all_goals (try (go_ret; exact ⟨SomeBool.mk _, rfl⟩))
              go_round
              case rel => exact ⟨i + 1, _, by omega, by go_num, rfl, by omega, by omega⟩
              case measure => simp [intOf]; omega
            · go_wp2
              all_goals (try (go_ret; exact ⟨SomeBool.mk _, rfl⟩))
              go_loop [5, 9] (fun t j => ∃ (i : Nat) (y : Int), i ≤ fs[k].rn.length ∧ j = .int .i64 i ∧ t = .int .i64 y ∧ 0 ≤ y ∧ y ≤ 1048576) (fun _ j => fs[k].rn.length - (intOf j).toNat)
              case atStart => exact ⟨0, _, Nat.zero_le _, rfl, rfl, by omega, by omega⟩
              case round =>
                clear y0 y1
                obtain ⟨i, y, hi, rfl, rfl, y0, y1⟩ := hrel
                by_cases hil : i < fs[k].rn.length
                · obtain ⟨b1, o1, e1, hb1, hc1⟩ := hD.d6.at0 (by omega)
                  rw [e1] at k5
                  have d1 := hc1 i hil
                  have s1 := hD.s6 _ (List.getElem_mem hil)
                  have hii : (i : Int) < (fs[k].rn.length : Int) := by omega
                  clear hc1 e1
                  go_wp2
                  all_goals (try (go_ret; exact ⟨SomeBool.mk _, rfl⟩))
                  go_round
                  case rel => exact ⟨i + 1, _, by omega, by go_num, rfl, by omega, by omega⟩
                  case measure => simp [intOf]; omega
                · go_wp2
                  all_goals (try (go_ret; exact ⟨SomeBool.mk _, rfl⟩))
                  go_round
                  case rel => exact ⟨k + 1, _, by omega, by go_num, rfl, by omega, by omega⟩
                  case measure => simp [intOf]; omega
    · go_wp2
      all_goals (try (go_ret; exact ⟨SomeBool.mk _, rfl⟩))
end Go.Proofs.Qxb6602244a
