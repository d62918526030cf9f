/-
  THE WALK OF THE SECOND LAW (4).
-/
import Derived.Test.Qxb6602228aLaws
namespace Go.Proofs.Qxb6602228a
open Go.ChangeShapes Go.WideShapes Go.ChangeAt Go.RowKit
set_option linter.unusedVariables false

/-- ZZmakeRoom on a held buffer, whether it must grow or not. -/
theorem zz_any {w w1 : World} {b g skip spare : Nat} {ds : List Int} (n : Int) (hn : n ≤ 65536) (h1 : ds.length ≤ 1048576) (h2 : skip ≤ 65536) (h3 : spare ≤ 65536)
    (B1 : Buf w1 b g (skip + ds.length) (skip + ds.length + spare) skip (row skip spare ds ds.length)) (L1 : Below w.heap.size w w1) (hb : w.heap.size ≤ b) :
    Calls Try.prog 7 #[.pointer (some ⟨b, 0, none⟩), .int .i64 n] w1 fun e w' => e = .returned (.tuple #[]) ∧ ∃ g' n' cap' off' cur',
      Buf w' b g' n' cap' off' cur' ∧ unread cur' n' off' = ds.map U8 ∧ n ≤ (cap' : Int) - n' ∧ (spare : Int) ≤ (cap' : Int) - n' ∧ Below w.heap.size w w' := by
  by_cases hs : n ≤ (spare : Int)
  · refine (zz_stays n (by omega) B1).mono ?_
    rintro e w2 ⟨rfl, k, hw⟩
    exact ⟨rfl, _, _, _, _, _, B1.of_heap (kept_drewN hw).2, unread_row skip spare ds, by omega, by omega, below_kept L1 hw⟩
  · obtain ⟨m, rfl⟩ := Int.eq_ofNat_of_zero_le (show 0 ≤ n by omega)
    refine (zz_grows m (by omega) (by omega) (by omega) (row_one skip spare ds) B1).mono ?_
    rintro e w2 ⟨rfl, g2, hg2, B2', hG⟩
    obtain ⟨B2, L2, hne, hgo⟩ := grown_state B1 L1 hb hg2 B2' hG
    exact ⟨rfl, _, _, _, _, _, B2, unread_front ds m, by omega, by omega, L2⟩

set_option maxHeartbeats 2000000 in
theorem keeps_any (a0 : Option Addr) (ds : List Int) (cap0 skip spare : Nat) (n m : Int) (w : World) (hD : Dat w a0 ds) (h1 : ds.length ≤ 1048576) (h2 : skip ≤ 65536) (h3 : spare ≤ 65536)
    (hn : n ≤ 65536) (hm : m ≤ n) :
    Calls Try.prog 4 #[.slice a0 ds.length cap0, .int .i64 spare, .int .i64 skip, .int .i64 n, .int .i64 m] w fun e w' => e = .returned (.bool true) ∧ Below w.heap.size w w' := by
  go_enter Try.func4, Try.ntmps4
  go_wp2_with (go_at_call 13; go_in)
  refine (held_any a0 ds cap0 skip spare _ hD h1 h2 h3).mono ?_
  rintro e w1 ⟨b, g, hb, hg, rfl, B1, L1⟩
  go_wp2_with fail
  refine (zz_any n hn h1 h2 h3 B1 L1 hb).mono ?_
  rintro e w2 ⟨rfl, g', n', cap', off', cur', B2, hu, hr1, hr2, L2⟩
  have HU : Hid _ := hu
  have hul := unread_len B2
  rw [hu, List.length_map] at hul
  have HL : Hid (n' - off' = ds.length) := hul.symm
  have q1 := B2.on
  have q2 := B2.nc
  have q3 := B2.small
  clear hu hul B1 L1
  go_wp2_with fail
  refine (cap_any B2).mono ?_
  rintro e w3 ⟨rfl, rfl⟩
  go_wp2_with fail
  refine (avail_any B2).mono ?_
  rintro e w4 ⟨rfl, k4, hw4⟩
  have B4 := B2.of_heap (kept_drewN hw4).2
  have L4 := below_kept L2 hw4
  clear hw4 B2 L2
  have hlen : (n' : Int) - off' = ds.length := by have := HL.out; omega
  have HLi : Hid _ := hlen
  clear hlen
  by_cases hp : 0 < ds.length
  · have hpi : (0 : Int) < (ds.length : Int) := by omega
    have hni : (0 : Int) < (n' : Int) - off' := by have := HLi.out; omega
    have hoc : off' < cap' := by omega
    have HBO : Hid (bo cap' off' = off') := bo_eq hoc
    go_wp2_with fail
    refine (bytes_any B4).mono ?_
    rintro e w5 ⟨rfl, k5, hw5⟩
    have B5 := B4.of_heap (kept_drewN hw5).2
    have L5 := below_kept L4 hw5
    clear hw5 B4 L4
    rw [HBO.out, HL.out]
    go_wp2_with fail
    refine (zz_stays m (by omega) B5).mono ?_
    rintro e w6 ⟨rfl, k6, hw6⟩
    have B6 := B5.of_heap (kept_drewN hw6).2
    have L6 := below_kept L5 hw6
    clear hw6 B5 L5
    go_wp2_with fail
    refine (cap_any B6).mono ?_
    rintro e w7 ⟨rfl, rfl⟩
    go_wp2_with fail
    refine (avail_any B6).mono ?_
    rintro e w8 ⟨rfl, k8, hw8⟩
    have B8 := B6.of_heap (kept_drewN hw8).2
    have L8 := below_kept L6 hw8
    clear hw8 B6 L6
    go_wp2_with fail
    refine (len_any B8).mono ?_
    rintro e w9 ⟨rfl, k9, hw9⟩
    have B9 := B8.of_heap (kept_drewN hw9).2
    have L9 := below_kept L8 hw9
    clear hw9 B8 L8
    rw [HLi.out]
    go_wp2_with fail
    refine (bytes_any B9).mono ?_
    rintro e w10 ⟨rfl, k10, hw10⟩
    have B10 := B9.of_heap (kept_drewN hw10).2
    have L10 := below_kept L9 hw10
    clear hw10 B9 L9
    rw [HL.out]
    go_wp2_with fail
    refine (same_any _ _ ds _ _ _ h1 (buf_dat B10 HU.out) (dat_below hD L10)).mono ?_
    rintro e w11 ⟨rfl, k11, hw11⟩
    have B11 := B10.of_heap (kept_drewN hw11).2
    have L11 := below_kept L10 hw11
    clear hw11 B10 L10
    have hq := fun W => ptr_same W ⟨g', off', none⟩
    go_wp2_with fail
    refine (bytes_any B11).mono ?_
    rintro e w12 ⟨rfl, k12, hw12⟩
    have L12 := below_kept L11 hw12
    clear hw12 B11 L11
    rw [HBO.out, HL.out]
    go_wp2
    go_ret
    exact ⟨rfl, L12⟩
  · have hpi : decide ((0 : Int) < (ds.length : Int)) = false := by simpa using hp
    go_wp2_with fail
    refine (zz_stays m (by omega) B4).mono ?_
    rintro e w6 ⟨rfl, k6, hw6⟩
    have B6 := B4.of_heap (kept_drewN hw6).2
    have L6 := below_kept L4 hw6
    clear hw6 B4 L4
    go_wp2_with fail
    refine (cap_any B6).mono ?_
    rintro e w7 ⟨rfl, rfl⟩
    go_wp2_with fail
    refine (avail_any B6).mono ?_
    rintro e w8 ⟨rfl, k8, hw8⟩
    have B8 := B6.of_heap (kept_drewN hw8).2
    have L8 := below_kept L6 hw8
    clear hw8 B6 L6
    go_wp2_with fail
    refine (len_any B8).mono ?_
    rintro e w9 ⟨rfl, k9, hw9⟩
    have B9 := B8.of_heap (kept_drewN hw9).2
    have L9 := below_kept L8 hw9
    clear hw9 B8 L8
    rw [HLi.out]
    go_wp2_with fail
    refine (bytes_any B9).mono ?_
    rintro e w10 ⟨rfl, k10, hw10⟩
    have B10 := B9.of_heap (kept_drewN hw10).2
    have L10 := below_kept L9 hw10
    clear hw10 B9 L9
    rw [HL.out]
    go_wp2_with fail
    refine (same_any _ _ ds _ _ _ h1 (buf_dat B10 HU.out) (dat_below hD L10)).mono ?_
    rintro e w11 ⟨rfl, k11, hw11⟩
    have L11 := below_kept L10 hw11
    clear hw11 B10 L10
    go_wp2
    go_ret
    exact ⟨rfl, L11⟩
end Go.Proofs.Qxb6602228a
