/-
  THE FRAMES THAT COME IN: zzFramesFitB1 (17), zzFramesBytesB1 (16).
-/
import Derived.Test.Qxb6602244aNew
namespace Go.Proofs.Qxb6602244a
open Go.ChangeShapes Go.WideShapes Go.ChangeAt Go.RowKit
set_option linter.unusedVariables false

/-- one frame: its slices' heads, and what they hold. -/
structure Fr where
  a1 : Option Addr
  a2 : Option Addr
  a3 : Option Addr
  a6 : Option Addr
  a7 : Option Addr
  c1 : Nat
  c2 : Nat
  c3 : Nat
  c6 : Nat
  c7 : Nat
  vn : List ByteArray
  vb : List Bool
  dc : List ByteArray
  hw : Bool
  nn : Int
  rn : List ByteArray
  ra : List Int

structure FrDat (w : World) (f : Fr) : Prop where
  d1 : Dat Value.string w f.a1 f.vn
  d2 : Dat Value.bool w f.a2 f.vb
  d3 : Dat Value.string w f.a3 f.dc
  d6 : Dat Value.string w f.a6 f.rn
  d7 : Dat (Value.int .i64) w f.a7 f.ra
  l1 : f.vn.length ≤ 9223372036854775807
  l2 : f.vb.length ≤ 9223372036854775807
  l3 : f.dc.length ≤ 9223372036854775807
  l6 : f.rn.length ≤ 9223372036854775807
  l7 : f.ra.length ≤ 9223372036854775807
  s1 : ∀ s ∈ f.vn, s.size ≤ 9223372036854775807
  s3 : ∀ s ∈ f.dc, s.size ≤ 9223372036854775807
  s6 : ∀ s ∈ f.rn, s.size ≤ 9223372036854775807
  n0 : -9223372036854775808 ≤ f.nn
  n1 : f.nn ≤ 9223372036854775807

/-- a frame's seven cells. -/
structure FrCells (w : World) (b o : Nat) (f : Fr) : Prop where
  k0 : w.cell? ⟨b, o, none⟩ = some (.slice f.a1 f.vn.length f.c1)
  k1 : w.cell? ⟨b, o + 1, none⟩ = some (.slice f.a2 f.vb.length f.c2)
  k2 : w.cell? ⟨b, o + 2, none⟩ = some (.slice f.a3 f.dc.length f.c3)
  k3 : w.cell? ⟨b, o + 3, none⟩ = some (.bool f.hw)
  k4 : w.cell? ⟨b, o + 4, none⟩ = some (.int .i64 f.nn)
  k5 : w.cell? ⟨b, o + 5, none⟩ = some (.slice f.a6 f.rn.length f.c6)
  k6 : w.cell? ⟨b, o + 6, none⟩ = some (.slice f.a7 f.ra.length f.c7)

structure Frames (w : World) (a : Option Addr) (fs : List Fr) : Prop where
  at0 : 0 < fs.length → ∃ b off, a = some ⟨b, off, none⟩ ∧ b < w.heap.size ∧ ∀ i, (h : i < fs.length) → FrCells w b (off + i * 7) fs[i]
  each : ∀ f ∈ fs, FrDat w f
  len : fs.length ≤ 9223372036854775807

def fits (f : Fr) : Bool := decide (f.vn.length = f.vb.length ∧ f.rn.length = f.ra.length)

set_option maxHeartbeats 2000000 in
theorem fit_any (a : Option Addr) (fs : List Fr) (cap : Nat) (w : World) (hF : Frames w a fs) :
    Calls Try.prog 17 #[.slice a fs.length cap] w fun e w' => e = .returned (.bool (fs.all fits)) ∧ ∃ k, w' = w.drewN k := by
  have hn := hF.len
  go_enter Try.func17, Try.ntmps17
  go_wp2
  go_loopw [3] (fun j wr => ∃ k q : Nat, k ≤ fs.length ∧ j = .int .i64 k ∧ wr = w.drewN q ∧ fs.all fits = (fs.drop k).all fits) (fun j _ => fs.length - (intOf j).toNat)
  case atStart => exact ⟨0, 0, Nat.zero_le _, rfl, rfl, rfl⟩
  case round =>
    obtain ⟨k, q, hk, rfl, rfl, hall⟩ := hrel
    have HA : Hid _ := hall
    clear hall
    by_cases hlt : k < fs.length
    · obtain ⟨b, off, rfl, hb, hc⟩ := hF.at0 (by omega)
      obtain ⟨k0, k1, k2, k3, k4, k5, k6⟩ := hc k hlt
      have hki : (k : Int) < (fs.length : Int) := by omega
      clear hc hF k2 k3 k4
      by_cases h1 : fs[k].vn.length = fs[k].vb.length
      · have h1' : ((fs[k].vn.length : Int) != (fs[k].vb.length : Int)) = false := by simp [h1]
        have H1 : Hid _ := h1
        clear h1
        go_wp2_with fail
        go_quiet (fail)
        by_cases h2 : fs[k].rn.length = fs[k].ra.length
        · have h2' : ((fs[k].rn.length : Int) != (fs[k].ra.length : Int)) = false := by simp [h2]
          have HN : Hid (fs.all fits = (fs.drop (k + 1)).all fits) := by
            show _ = _
            rw [HA.out, List.drop_eq_getElem_cons hlt, List.all_cons, show fits fs[k] = true from by simp [fits, H1.out, h2]]; rfl
          clear h2
          go_wp2
          go_roundw
          case rel => exact ⟨k + 1, _, by omega, by go_num, rfl, HN.out⟩
          case measure => simp [intOf]; omega
        · have h2' : ((fs[k].rn.length : Int) != (fs[k].ra.length : Int)) = true := by simp; omega
          have HN : Hid (fs.all fits = false) := by
            show _ = _
            rw [HA.out, List.drop_eq_getElem_cons hlt, List.all_cons, show fits fs[k] = false from by simp [fits, h2]]; rfl
          clear h2
          go_wp2
          go_ret
          exact ⟨by rw [HN.out]; rfl, _, World.drewN_drewN _ _ _⟩
      · have h1' : ((fs[k].vn.length : Int) != (fs[k].vb.length : Int)) = true := by simp; omega
        have HN : Hid (fs.all fits = false) := by
          show _ = _
          rw [HA.out, List.drop_eq_getElem_cons hlt, List.all_cons, show fits fs[k] = false from by simp [fits, h1]]; rfl
        clear h1
        go_wp2_with fail
        go_quiet (fail)
        go_wp2
        go_ret
        exact ⟨by rw [HN.out]; rfl, _, World.drewN_drewN _ _ _⟩
    · go_wp2
      go_ret
      exact ⟨by rw [HA.out, List.drop_eq_nil_of_le (by omega)]; rfl, _, rfl⟩

/-- what the count of bytes tells of one frame. -/
def good (f : Fr) : Prop := f.vn.length ≤ 131072 ∧ f.vb.length ≤ 1048576 ∧ f.dc.length ≤ 131072 ∧ f.rn.length ≤ 131072 ∧ f.ra.length ≤ 131072 ∧ (f.hw = true → 0 ≤ f.nn ∧ f.nn ≤ 65536)

theorem FrDat.below {w w' : World} {f : Fr} (h : FrDat w f) (hb : Below w.heap.size w w') : FrDat w' f :=
  ⟨h.d1.below hb, h.d2.below hb, h.d3.below hb, h.d6.below hb, h.d7.below hb, h.l1, h.l2, h.l3, h.l6, h.l7, h.s1, h.s3, h.s6, h.n0, h.n1⟩
theorem FrCells.below {w w' : World} {b o B : Nat} {f : Fr} (h : FrCells w b o f) (hb : Below B w w') (hlt : b < B) : FrCells w' b o f :=
  ⟨(hb.cell (p := ⟨b, o, none⟩) hlt).trans h.k0, (hb.cell (p := ⟨b, o + 1, none⟩) hlt).trans h.k1, (hb.cell (p := ⟨b, o + 2, none⟩) hlt).trans h.k2, (hb.cell (p := ⟨b, o + 3, none⟩) hlt).trans h.k3,
   (hb.cell (p := ⟨b, o + 4, none⟩) hlt).trans h.k4, (hb.cell (p := ⟨b, o + 5, none⟩) hlt).trans h.k5, (hb.cell (p := ⟨b, o + 6, none⟩) hlt).trans h.k6⟩
theorem Frames.below {w w' : World} {a : Option Addr} {fs : List Fr} (h : Frames w a fs) (hb : Below w.heap.size w w') : Frames w' a fs where
  at0 := by
    intro hp
    obtain ⟨b, off, e, hlt, hc⟩ := h.at0 hp
    exact ⟨b, off, e, Nat.lt_of_lt_of_le hlt hb.size, fun i hi => (hc i hi).below hb hlt⟩
  each := fun f hf => (h.each f hf).below hb
  len := h.len

set_option maxHeartbeats 4000000 in
theorem framesBytes_any (a : Option Addr) (fs : List Fr) (cap : Nat) (w : World) (hF : Frames w a fs) :
    Calls Try.prog 16 #[.slice a fs.length cap] w fun e w' => (∃ r : Int, e = .returned (.int .i64 r) ∧ 0 ≤ r ∧ r ≤ 9223372036854775807 ∧ (r ≤ 1048576 → fs.length ≤ 65536 ∧ ∀ f ∈ fs, good f)) ∧ Below w.heap.size w w' := by
  have hn := hF.len
  by_cases hbig : 65536 < fs.length
  · go_enter Try.func16, Try.ntmps16
    go_wp2
    go_ret
    exact ⟨⟨1048577, rfl, by omega, by omega, by omega⟩, Below.refl _ _⟩
  · go_enter Try.func16, Try.ntmps16
    go_wp2
    go_loopw [3, 4] (fun t j wr => ∃ (k : Nat) (r : Int), k ≤ fs.length ∧ j = .int .i64 k ∧ t = .int .i64 r ∧ 0 ≤ r ∧ r ≤ 8388608 ∧ (r ≤ 1048576 → ∀ f ∈ fs.take k, good f) ∧ Below w.heap.size w wr) (fun _ j _ => fs.length - (intOf j).toNat)
    case atStart => exact ⟨0, _, Nat.zero_le _, rfl, rfl, by omega, by omega, by simp, Below.refl _ _⟩
    case round =>
      obtain ⟨k, r, hk, rfl, rfl, h0, h1, hg, hL⟩ := hrel
      have HG : Hid _ := hg
      clear hg
      by_cases hlt : k < fs.length
      · by_cases hr : r ≤ 1048576
        · obtain ⟨b, off, rfl, hb, hc⟩ := hF.at0 (by omega)
          have hD := hF.each fs[k] (List.getElem_mem hlt)
          obtain ⟨k0, k1, k2, k3, k4, k5, k6⟩ := (hc k hlt).below hL hb
          have hki : (k : Int) < (fs.length : Int) := by omega
          have hD' := hD.below hL
          clear hc
          have hla := fun o => (Below.refl wr.heap.size wr).alloc (Nat.le_refl _) o
          have ll2 := hD.l2
          have ll7 := hD.l7
          have nn0 := hD.n0
          have nn1 := hD.n1
          go_wp2_with fail
          refine (strs_any _ _ _ _ hD.l1 hD.s1 (hD'.d1.below (hla _))).mono ?_
          rintro e w1 ⟨⟨t1, rfl, p1, p1', pp1⟩, rfl⟩
          have P1 : Hid _ := pp1
          clear pp1
          go_wp2_with fail
          refine (plus_any _ _ _ (by omega) (by omega) (by omega) (by omega)).mono ?_
          rintro e w1 ⟨⟨r1, rfl, q1, q1', qq1⟩, rfl⟩
          have Q1 : Hid _ := qq1
          clear qq1
          go_wp2_with fail
          refine (plus_any _ _ _ (by omega) (by omega) (by omega) (by omega)).mono ?_
          rintro e w1 ⟨⟨r2, rfl, q2, q2', qq2⟩, rfl⟩
          have Q2 : Hid _ := qq2
          clear qq2
          go_wp2_with fail
          refine (strs_any _ _ _ _ hD.l3 hD.s3 (hD'.d3.below (hla _))).mono ?_
          rintro e w1 ⟨⟨t3, rfl, p3, p3', pp3⟩, rfl⟩
          have P3 : Hid _ := pp3
          clear pp3
          go_wp2_with fail
          refine (plus_any _ _ _ (by omega) (by omega) (by omega) (by omega)).mono ?_
          rintro e w1 ⟨⟨r3, rfl, q3, q3', qq3⟩, rfl⟩
          have Q3 : Hid _ := qq3
          clear qq3
          go_wp2_with fail
          refine (strs_any _ _ _ _ hD.l6 hD.s6 (hD'.d6.below (hla _))).mono ?_
          rintro e w1 ⟨⟨t6, rfl, p6, p6', pp6⟩, rfl⟩
          have P6 : Hid _ := pp6
          clear pp6
          go_wp2_with fail
          refine (plus_any _ _ _ (by omega) (by omega) (by omega) (by omega)).mono ?_
          rintro e w1 ⟨⟨r6, rfl, q6, q6', qq6⟩, rfl⟩
          have Q6 : Hid _ := qq6
          clear qq6
          go_wp2_with fail
          refine (words_any _ _ (by omega) (by omega)).mono ?_
          rintro e w1 ⟨⟨t7, rfl, p7, p7', pp7⟩, rfl⟩
          have P7 : Hid _ := pp7
          clear pp7
          go_wp2_with fail
          refine (plus_any _ _ _ (by omega) (by omega) (by omega) (by omega)).mono ?_
          rintro e w1 ⟨⟨r7, rfl, q7, q7', qq7⟩, rfl⟩
          have Q7 : Hid _ := qq7
          clear qq7
          have HT : Hid _ := take_snocG fs k hlt
          have HK : Hid (r7 ≤ 1048576 → (fs[k].hw = true → 0 ≤ fs[k].nn ∧ fs[k].nn ≤ 65536) → ∀ f ∈ fs.take (k + 1), good f) := by
            intro h7 hwn f hf
            have e7 := Q7.out h7
            have e6 := Q6.out (by omega)
            have e3 := Q3.out (by omega)
            have e2 := Q2.out (by omega)
            have e1 := Q1.out (by omega)
            have f1 := P1.out (by omega)
            have f3 := P3.out (by omega)
            have f6 := P6.out (by omega)
            have f7 := P7.out (by omega)
            rw [HT.out, List.mem_append] at hf
            rcases hf with hf | hf
            · exact HG.out (by omega) f hf
            · simp at hf
              rw [hf]
              exact ⟨by omega, by omega, by omega, by omega, by omega, hwn⟩
          clear P1 P3 P6 P7 Q1 Q2 Q3 Q6 Q7
          cases hwk : fs[k].hw with
          | false =>
            have HW : Hid _ := hwk
            clear hwk
            go_wp2
            go_roundw
            case rel => exact ⟨k + 1, r7, by omega, by go_num, rfl, q7, by omega, fun h => HK.out h (fun e => by rw [HW.out] at e; cases e), hL.trans ((hla _).mono hL.size)⟩
            case measure => simp [intOf]; omega
          | true =>
            clear hwk
            by_cases hneg : fs[k].nn < 0
            · go_wp2
              go_ret
              exact ⟨⟨1048577, rfl, by omega, by omega, by omega⟩, hL.trans ((hla _).mono hL.size)⟩
            · by_cases hov : 65536 < fs[k].nn
              · go_wp2
                go_ret
                exact ⟨⟨1048577, rfl, by omega, by omega, by omega⟩, hL.trans ((hla _).mono hL.size)⟩
              · go_wp2_with fail
                refine (words_any _ _ (by omega) (by omega)).mono ?_
                rintro e w1 ⟨⟨t8, rfl, p8, p8', pp8⟩, rfl⟩
                clear pp8
                go_wp2_with fail
                refine (plus_any _ _ _ (by omega) (by omega) (by omega) (by omega)).mono ?_
                rintro e w1 ⟨⟨r8, rfl, q8, q8', qq8⟩, rfl⟩
                have Q8 : Hid _ := qq8
                clear qq8
                go_wp2
                go_roundw
                case rel => exact ⟨k + 1, r8, by omega, by go_num, rfl, q8, by omega, fun h => HK.out (by have := Q8.out h; omega) (fun _ => ⟨by omega, by omega⟩), hL.trans ((hla _).mono hL.size)⟩
                case measure => simp [intOf]; omega
        · go_wp2
          go_ret
          exact ⟨⟨r, rfl, h0, by omega, by omega⟩, hL⟩
      · go_wp2
        all_goals
          go_ret
          exact ⟨⟨r, rfl, h0, by omega, fun h => ⟨by omega, by have := HG.out h; rwa [List.take_of_length_le (by omega)] at this⟩⟩, hL⟩
end Go.Proofs.Qxb6602244a
