/-
  ZZWalkReadsB1 (24), zzReadsAreB1 (25): the walks.
-/
import Derived.Test.Qxb6602244aReads
namespace Go.Proofs.Qxb6602244a
open Go.ChangeShapes Go.WideShapes Go.ChangeAt Go.RowKit
set_option linter.unusedVariables false

set_option maxHeartbeats 1000000 in
theorem reads_nil (sb : Nat) (w : World) (h : w.cell? ⟨sb, 6, none⟩ = some (.pointer none)) :
    Calls Try.prog 24 #[.pointer (some ⟨sb, 0, none⟩)] w fun e w' => e = .returned (.tuple #[.slice none 0 0, .slice none 0 0, .bool false]) ∧ w' = w := by
  go_enter Try.func24, Try.ntmps24
  go_wp2
  go_ret3
  exact ⟨rfl, rfl⟩

set_option maxHeartbeats 4000000 in
theorem reads_walk (sb B ab nn : Nat) (rs : List (ByteArray × Int)) (rb : Option Nat) (w : World) (h : w.cell? ⟨sb, 6, none⟩ = some (.pointer (some ⟨ab, 0, none⟩))) (hA : Att w B ab nn rs rb) (hn : rs.length ≤ 4194304) (hsb : sb < w.heap.size) :
    Calls Try.prog 24 #[.pointer (some ⟨sb, 0, none⟩)] w fun e w' => (∃ a1 a2, e = .returned (.tuple #[.slice (some a1) rs.length rs.length, .slice (some a2) rs.length rs.length, .bool true]) ∧
      Dat Value.string w' (some a1) (rs.map (·.1)) ∧ Dat (Value.int .i64) w' (some a2) (rs.map (·.2))) ∧ Below w.heap.size w w' := by
  obtain ⟨na, nc, un, v, nx, ch, hb, hown, hrb⟩ := hA.ex
  have habs : ab < w.heap.size := (Array.getElem?_eq_some_iff.1 hb).1
  have c2 := cell_at (cs := [_, _, _, _, _]) hb 2
  simp only [List.getElem?_cons_succ, List.getElem?_cons_zero] at c2
  have HS : Hid _ := cp_start w rs
  have m1 := mk_strs rs.length hn
  have m2 := mk_ints rs.length hn
  obtain ⟨va, vc, hv, hcl⟩ : ∃ va vc, v = .slice va rs.length vc ∧ (0 < rs.length → ∃ g, va = some ⟨g, 0, none⟩ ∧ g < w.heap.size ∧ ∀ j u, (rs.flatMap rd)[j]? = some u → w.cell? ⟨g, j, none⟩ = some u) := by
    rcases hown.2 with ⟨hv, h0⟩ | ⟨g, cap, cur, hv, hbg, hg, r⟩
    · exact ⟨none, 0, by rw [hv, h0], fun hp => by omega⟩
    · refine ⟨_, cap, hv, fun _ => ⟨g, rfl, (Array.getElem?_eq_some_iff.1 hg).1, ?_⟩⟩
      intro j u hj
      have := hown.cells (g := g) (by rw [hv]; rfl) j u hj
      have e : (⟨g, 0, none⟩ : Addr).add j = ⟨g, j, none⟩ := by unfold Addr.add; split <;> simp_all
      rw [e] at this; exact this
  subst hv
  have HC : Hid _ := hcl
  clear hb hown hrb hA hcl
  go_enter Try.func24, Try.ntmps24
  go_wp2
  go_loopw [40] (fun i wr => ∃ k : Nat, k ≤ rs.length ∧ i = .int .i64 k ∧ Cp w wr rs k) (fun i _ => rs.length - (intOf i).toNat)
  case atStart => exact ⟨0, Nat.zero_le _, rfl, by simpa using HS.out⟩
  case round =>
    obtain ⟨k, hk, rfl, R⟩ := hrel
    clear HS m1 m2
    by_cases hlt : k < rs.length
    · obtain ⟨g, rfl, hg, hc⟩ := HC.out (by omega)
      obtain ⟨r1, r2⟩ := rd_at rs k hlt
      have d1 := (R.bel.cell (p := ⟨g, k * 2, none⟩) hg).trans (hc _ _ r1)
      have d2 := (R.bel.cell (p := ⟨g, k * 2 + 1, none⟩) hg).trans (hc _ _ r2)
      have e1 := cell_at R.n1 k
      rw [fill_at _ _ k (by simpa using hlt)] at e1
      have e2 := cell_at R.n2 k
      rw [fill_at _ _ k (by simpa using hlt)] at e2
      have f1 := free_at R.n1 k
      have f2 := free_at R.n2 k
      have s2 : w.heap.size + 1 < wr.heap.size := (Array.getElem?_eq_some_iff.1 R.n2).1
      have s1 : w.heap.size < wr.heap.size := by omega
      have hki : (k : Int) < (rs.length : Int) := by omega
      have HR : Hid _ := fun o => cp_step R hlt o
      clear hc r1 r2
      go_wp2
      go_roundw
      case rel => exact ⟨k + 1, by omega, by go_num, HR.out _⟩
      case measure => simp [intOf]; omega
    · go_wp2
      go_ret3
      refine ⟨⟨_, _, rfl, ⟨fun hp => ?_⟩, ⟨fun hp => ?_⟩⟩, R.bel⟩
      · refine ⟨_, _, rfl, (Array.getElem?_eq_some_iff.1 R.n1).1, fun i hi => ?_⟩
        simp only [List.length_map] at hi
        rw [Nat.zero_add, cell_at R.n1, fill_full _ _ k (by simp; omega)]
        simp [hi]
      · refine ⟨_, _, rfl, (Array.getElem?_eq_some_iff.1 R.n2).1, fun i hi => ?_⟩
        simp only [List.length_map] at hi
        rw [Nat.zero_add, cell_at R.n2, fill_full _ _ k (by simp; omega)]
        simp [hi]

set_option maxHeartbeats 4000000 in
/-- zzReadsAreB1, where the reads are as they should be. -/
theorem readsAre_yes (a1 a2 a3 a4 : Option Addr) (c1 c2 c3 c4 : Nat) (ps : List ByteArray) (qs : List Int) (nt : Bool) (name : ByteArray) (n : Int) (w : World) (xs : List ByteArray) (ys : List Int)
    (hx : xs = ps ++ (if nt then [name] else [])) (hy : ys = qs ++ (if nt then [n] else [])) (hl : ps.length = qs.length) (hn : ps.length ≤ 1048576)
    (d1 : Dat Value.string w a1 xs) (d2 : Dat (Value.int .i64) w a2 ys) (d3 : Dat Value.string w a3 ps) (d4 : Dat (Value.int .i64) w a4 qs) :
    Calls Try.prog 25 #[.slice a1 xs.length c1, .slice a2 ys.length c2, .slice a3 ps.length c3, .slice a4 qs.length c4, .bool nt, .string name, .int .i64 n] w fun e w' => e = .returned (.bool true) ∧ ∃ k, w' = w.drewN k := by
  have HXP : Hid (∀ k, (h : k < ps.length) → ∃ h' : k < xs.length, xs[k] = ps[k]) := by
    intro k h; subst hx; exact ⟨by simp; omega, List.getElem_append_left h⟩
  have HYP : Hid (∀ k, (h : k < qs.length) → ∃ h' : k < ys.length, ys[k] = qs[k]) := by
    intro k h; subst hy; exact ⟨by simp; omega, List.getElem_append_left h⟩
  have HXE : Hid (nt = true → ∃ h' : ps.length < xs.length, xs[ps.length] = name) := by
    intro h; subst hx; subst h; exact ⟨by simp, by simp⟩
  have HYE : Hid (nt = true → ∃ h' : ps.length < ys.length, ys[ps.length] = n) := by
    intro h; subst hy; subst h; exact ⟨by simp; omega, by simp [hl]⟩
  have hxl : xs.length = ps.length + (if nt then 1 else 0) := by subst hx; cases nt <;> simp
  have hyl : ys.length = ps.length + (if nt then 1 else 0) := by subst hy; cases nt <;> simp [hl]
  have HXL : Hid _ := hxl
  have HYL : Hid _ := hyl
  have HL : Hid _ := hl
  have hle : ps.length ≤ qs.length := by omega
  clear hx hy hxl hyl hl
  cases nt with
  | true =>
    have g1 : ((xs.length : Int) != (ps.length : Int) + 1) = false := by have := HXL.out; simp at this; simp [this]
    have g2 : ((ys.length : Int) != (ps.length : Int) + 1) = false := by have := HYL.out; simp at this; simp [this]
    go_enter Try.func25, Try.ntmps25
    go_wp2
    go_loopw [16] (fun j wr => ∃ k q : Nat, k ≤ ps.length ∧ j = .int .i64 k ∧ wr = w.drewN q) (fun j _ => ps.length - (intOf j).toNat)
    case atStart => exact ⟨0, 0, Nat.zero_le _, rfl, rfl⟩
    case round =>
      obtain ⟨k, q, hk, rfl, rfl⟩ := hrel
      by_cases hlt : k < ps.length
      · obtain ⟨hx1, ex⟩ := HXP.out k hlt
        obtain ⟨hy1, ey⟩ := HYP.out k (by omega)
        obtain ⟨b1, o1, rfl, _, hc1⟩ := d1.at0 (by omega)
        obtain ⟨b2, o2, rfl, _, hc2⟩ := d2.at0 (by omega)
        obtain ⟨b3, o3, rfl, _, hc3⟩ := d3.at0 (by omega)
        obtain ⟨b4, o4, rfl, _, hc4⟩ := d4.at0 (by omega)
        have k1 := hc1 k hx1
        have k2 := hc2 k hy1
        have k3 := hc3 k hlt
        have k4 := hc4 k (by omega)
        rw [ex] at k1
        rw [ey] at k2
        have i1 : (k : Int) < (xs.length : Int) := by omega
        have i2 : (k : Int) < (ys.length : Int) := by omega
        have i3 : (k : Int) < (ps.length : Int) := by omega
        have i4 : (k : Int) < (qs.length : Int) := by omega
        clear hc1 hc2 hc3 hc4 ex ey d1 d2 d3 d4
        go_wp2_with fail
        go_quiet (fail)
        go_wp2
        go_roundw
        case rel => exact ⟨k + 1, _, by omega, by go_num, rfl⟩
        case measure => simp [intOf]; omega
      · obtain ⟨hx1, ex⟩ := HXE.out (by simp)
        obtain ⟨hy1, ey⟩ := HYE.out (by simp)
        obtain ⟨b1, o1, rfl, _, hc1⟩ := d1.at0 (by omega)
        obtain ⟨b2, o2, rfl, _, hc2⟩ := d2.at0 (by omega)
        have k1 := hc1 _ hx1
        have k2 := hc2 _ hy1
        rw [ex] at k1
        rw [ey] at k2
        have i1 : (ps.length : Int) < (xs.length : Int) := by omega
        have i2 : (ps.length : Int) < (ys.length : Int) := by omega
        clear hc1 hc2 ex ey d1 d2 d3 d4
        go_wp2
        go_ret
        exact ⟨rfl, q, rfl⟩
  | false =>
    have g1 : ((xs.length : Int) != (ps.length : Int)) = false := by have := HXL.out; simp at this; simp [this]
    have g2 : ((ys.length : Int) != (ps.length : Int)) = false := by have := HYL.out; simp at this; simp [this]
    go_enter Try.func25, Try.ntmps25
    go_wp2
    go_loopw [16] (fun j wr => ∃ k q : Nat, k ≤ ps.length ∧ j = .int .i64 k ∧ wr = w.drewN q) (fun j _ => ps.length - (intOf j).toNat)
    case atStart => exact ⟨0, 0, Nat.zero_le _, rfl, rfl⟩
    case round =>
      obtain ⟨k, q, hk, rfl, rfl⟩ := hrel
      by_cases hlt : k < ps.length
      · obtain ⟨hx1, ex⟩ := HXP.out k hlt
        obtain ⟨hy1, ey⟩ := HYP.out k (by omega)
        obtain ⟨b1, o1, rfl, _, hc1⟩ := d1.at0 (by omega)
        obtain ⟨b2, o2, rfl, _, hc2⟩ := d2.at0 (by omega)
        obtain ⟨b3, o3, rfl, _, hc3⟩ := d3.at0 (by omega)
        obtain ⟨b4, o4, rfl, _, hc4⟩ := d4.at0 (by omega)
        have k1 := hc1 k hx1
        have k2 := hc2 k hy1
        have k3 := hc3 k hlt
        have k4 := hc4 k (by omega)
        rw [ex] at k1
        rw [ey] at k2
        have i1 : (k : Int) < (xs.length : Int) := by omega
        have i2 : (k : Int) < (ys.length : Int) := by omega
        have i3 : (k : Int) < (ps.length : Int) := by omega
        have i4 : (k : Int) < (qs.length : Int) := by omega
        clear hc1 hc2 hc3 hc4 ex ey d1 d2 d3 d4
        go_wp2_with fail
        go_quiet (fail)
        go_wp2
        go_roundw
        case rel => exact ⟨k + 1, _, by omega, by go_num, rfl⟩
        case measure => simp [intOf]; omega
      · go_wp2
        go_ret
        exact ⟨rfl, q, rfl⟩
end Go.Proofs.Qxb6602244a
