/-
  THE PROOF OF 'Rows.FnWatchMatchesModelSaid', after the guide's shell for slices; the walk is 'model_any'.
-/
import Derived.Test.Qxb6602244aRows
import Derived.Test.Qxb6602244aModel
import Derived.Test.Qxb6602244aOpen
import Derived.WalkKit
import Derived.ProofKit
import Derived.OpenShut
import Derived.ChangeOld
import Derived.Below
namespace Go.Proofs.Qxb6602244a.fnWatchMatchesModel
open Go.ChangeShapes Go.WideShapes Go.ChangeAt Go.RowKit
set_option linter.unusedVariables false

theorem own : ownKnob Try.prog.godebug = none := by kernel_rfl
theorem laidOut : laidOutB Try.prog = true := by kernel_rfl

set_option maxRecDepth 100000 in
theorem lifted (os : Os) (started : os.Started) (H : Type) (enc : TypeId × Value → H) :
    ReturnsInHanded {} Try.checked os 6 .any (Rows.fnWatchMatchesModelSpec.pre6 enc Try.prog Try.f6 Rows.fnWatchMatchesModelRow.domain false) (Rows.fnWatchMatchesModelSpec.post enc Try.prog Try.f6 false true false false) := by
  refine returnsInHanded_of_change (C := Try.checked) own started (by kernel_rfl) Try.func6
    (ChangeSpec.witness6 (enc := enc) (C := Try.checked) false ⟨#[], #[.slice none 0 0, .slice none 0 0, .slice none 0 0, .slice none 0 0, .slice none 0 0, .slice none 0 0, .slice none 0 0, .int .i64 0], []⟩ 8 (by kernel_rfl) (by kernel_rfl) (by kernel_rfl) (by kernel_rfl)) ?_
  intro W base args ds gs before hval0 hW hcnd _
  have hval : ∀ (j : Nat) t v, Try.f6.params[j]? = some t → args[j]? = some v → Value.okWide Try.prog W .any base t v := hval0
  have hW' := hW
  obtain ⟨p, q, hA0, hV, rfl, hfz, hnd⟩ := hW
  have hA : DataW.TrodAll enc Try.prog W 0 (fun _ => true) true Try.f6.params.toList args.toList ds p := hA0
  rw [Try.params6] at hA hval
  obtain ⟨v0, vs0, d0, ds0, p0, q0, hargs, rfl, rfl, h0, r0⟩ := trodAll_cons hA
  obtain ⟨v1, vs1, d1, ds1, p1, q1, rfl, rfl, rfl, h1, r1⟩ := trodAll_cons r0
  obtain ⟨v2, vs2, d2, ds2, p2, q2, rfl, rfl, rfl, h2, r2⟩ := trodAll_cons r1
  obtain ⟨v3, vs3, d3, ds3, p3, q3, rfl, rfl, rfl, h3, r3⟩ := trodAll_cons r2
  obtain ⟨v4, vs4, d4, ds4, p4, q4, rfl, rfl, rfl, h4, r4⟩ := trodAll_cons r3
  obtain ⟨v5, vs5, d5, ds5, p5, q5, rfl, rfl, rfl, h5, r5⟩ := trodAll_cons r4
  obtain ⟨v6, vs6, d6, ds6, p6, q6, rfl, rfl, rfl, h6, r6⟩ := trodAll_cons r5
  obtain ⟨v7, vs7, d7, ds7, p7, q7, rfl, rfl, rfl, h7, r7⟩ := trodAll_cons r6
  obtain ⟨rfl, rfl, rfl⟩ := trodAll_nil r7
  obtain rfl : args = #[v0, v1, v2, v3, v4, v5, v6, v7] := by cases args; simp_all
  obtain ⟨rfl, rfl⟩ := trodVars_none hV
  obtain ⟨a0, len0, cap0, rfl⟩ := okWide_slice Try.underlying22 (hval 0 22 v0 rfl rfl)
  have k0 := h0
  have lt0 : ∀ x ∈ p0, x.block < W.heap.size := by obtain ⟨m, hm⟩ := k0; exact DataW.trod_lt m _ _ _ hm
  obtain ⟨ns, hl0, D0, L0, S0⟩ : ∃ ns : List ByteArray, len0 = ns.length ∧ Dat Value.string W a0 ns ∧ ns.length ≤ 9223372036854775807 ∧ ∀ d ∈ ns, d.size ≤ 9223372036854775807 := by
    obtain ⟨fuel, hf⟩ := h0
    obtain ⟨a, fs, cap, hcs, hF⟩ := dat_strs hf
    simp [Value.cells] at hcs
    obtain ⟨rfl, rfl, rfl⟩ := hcs
    exact ⟨fs, rfl, hF⟩
  subst hl0
  obtain ⟨a1, len1, cap1, rfl⟩ := okWide_slice Try.underlying22 (hval 1 22 v1 rfl rfl)
  have k1 := h1
  have lt1 : ∀ x ∈ p1, x.block < W.heap.size := by obtain ⟨m, hm⟩ := k1; exact DataW.trod_lt m _ _ _ hm
  obtain ⟨rn, hl1, D1, L1, S1⟩ : ∃ rn : List ByteArray, len1 = rn.length ∧ Dat Value.string W a1 rn ∧ rn.length ≤ 9223372036854775807 ∧ ∀ d ∈ rn, d.size ≤ 9223372036854775807 := by
    obtain ⟨fuel, hf⟩ := h1
    obtain ⟨a, fs, cap, hcs, hF⟩ := dat_strs hf
    simp [Value.cells] at hcs
    obtain ⟨rfl, rfl, rfl⟩ := hcs
    exact ⟨fs, rfl, hF⟩
  subst hl1
  obtain ⟨a2, len2, cap2, rfl⟩ := okWide_slice Try.underlying43 (hval 2 43 v2 rfl rfl)
  have k2 := h2
  have lt2 : ∀ x ∈ p2, x.block < W.heap.size := by obtain ⟨m, hm⟩ := k2; exact DataW.trod_lt m _ _ _ hm
  obtain ⟨ra, hl2, D2, L2, S2⟩ : ∃ ra : List Int, len2 = ra.length ∧ Dat (Value.int .i64) W a2 ra ∧ ra.length ≤ 9223372036854775807 ∧ ∀ d ∈ ra, inI64 d := by
    obtain ⟨fuel, hf⟩ := h2
    obtain ⟨a, fs, cap, hcs, hF⟩ := dat_ints hf
    simp [Value.cells] at hcs
    obtain ⟨rfl, rfl, rfl⟩ := hcs
    exact ⟨fs, rfl, hF⟩
  subst hl2
  obtain ⟨a3, len3, cap3, rfl⟩ := okWide_slice Try.underlying22 (hval 3 22 v3 rfl rfl)
  have k3 := h3
  have lt3 : ∀ x ∈ p3, x.block < W.heap.size := by obtain ⟨m, hm⟩ := k3; exact DataW.trod_lt m _ _ _ hm
  obtain ⟨wn, hl3, D3, L3, S3⟩ : ∃ wn : List ByteArray, len3 = wn.length ∧ Dat Value.string W a3 wn ∧ wn.length ≤ 9223372036854775807 ∧ ∀ d ∈ wn, d.size ≤ 9223372036854775807 := by
    obtain ⟨fuel, hf⟩ := h3
    obtain ⟨a, fs, cap, hcs, hF⟩ := dat_strs hf
    simp [Value.cells] at hcs
    obtain ⟨rfl, rfl, rfl⟩ := hcs
    exact ⟨fs, rfl, hF⟩
  subst hl3
  obtain ⟨a4, len4, cap4, rfl⟩ := okWide_slice Try.underlying43 (hval 4 43 v4 rfl rfl)
  have k4 := h4
  have lt4 : ∀ x ∈ p4, x.block < W.heap.size := by obtain ⟨m, hm⟩ := k4; exact DataW.trod_lt m _ _ _ hm
  obtain ⟨we, hl4, D4, L4, S4⟩ : ∃ we : List Int, len4 = we.length ∧ Dat (Value.int .i64) W a4 we ∧ we.length ≤ 9223372036854775807 ∧ ∀ d ∈ we, inI64 d := by
    obtain ⟨fuel, hf⟩ := h4
    obtain ⟨a, fs, cap, hcs, hF⟩ := dat_ints hf
    simp [Value.cells] at hcs
    obtain ⟨rfl, rfl, rfl⟩ := hcs
    exact ⟨fs, rfl, hF⟩
  subst hl4
  obtain ⟨a5, len5, cap5, rfl⟩ := okWide_slice Try.underlying24 (hval 5 24 v5 rfl rfl)
  have k5 := h5
  have lt5 : ∀ x ∈ p5, x.block < W.heap.size := by obtain ⟨m, hm⟩ := k5; exact DataW.trod_lt m _ _ _ hm
  obtain ⟨wb, hl5, D5, L5⟩ : ∃ wb : List Bool, len5 = wb.length ∧ Dat Value.bool W a5 wb ∧ wb.length ≤ 9223372036854775807 := by
    obtain ⟨fuel, hf⟩ := h5
    obtain ⟨a, fs, cap, hcs, hF⟩ := dat_bools hf
    simp [Value.cells] at hcs
    obtain ⟨rfl, rfl, rfl⟩ := hcs
    exact ⟨fs, rfl, hF⟩
  subst hl5
  obtain ⟨a6, len6, cap6, rfl⟩ := okWide_slice Try.underlying43 (hval 6 43 v6 rfl rfl)
  have k6 := h6
  have lt6 : ∀ x ∈ p6, x.block < W.heap.size := by obtain ⟨m, hm⟩ := k6; exact DataW.trod_lt m _ _ _ hm
  obtain ⟨wa, hl6, D6, L6, S6⟩ : ∃ wa : List Int, len6 = wa.length ∧ Dat (Value.int .i64) W a6 wa ∧ wa.length ≤ 9223372036854775807 ∧ ∀ d ∈ wa, inI64 d := by
    obtain ⟨fuel, hf⟩ := h6
    obtain ⟨a, fs, cap, hcs, hF⟩ := dat_ints hf
    simp [Value.cells] at hcs
    obtain ⟨rfl, rfl, rfl⟩ := hcs
    exact ⟨fs, rfl, hF⟩
  subst hl6
  obtain ⟨i, rfl, rfl, rfl, w7⟩ := open_int Try.underlying3 (hval 7 3 v7 rfl rfl) h7
  clear hA0 hval0
  refine (model_any a0 a1 a2 a3 a4 a5 a6 cap0 cap1 cap2 cap3 cap4 cap5 cap6 ns rn ra wn we wb wa i W D0 D1 D2 D3 D4 D5 D6 L0 L1 L2 L3 L4 L5 L6 S0 S1 S3).mono fun e W' ⟨he, bel⟩ => ?_
  subst he
  exact ⟨_, rfl, _, _, _, [], _, [], hW', trodAll_mk1 (shut_bool Try.underlying4 _), (trodAll_cons_mk (Below.trod laidOut (by kernel_rfl) (of_decide_eq_true (by kernel_rfl)) k0 bel lt0) (trodAll_cons_mk (Below.trod laidOut (by kernel_rfl) (of_decide_eq_true (by kernel_rfl)) k1 bel lt1) (trodAll_cons_mk (Below.trod laidOut (by kernel_rfl) (of_decide_eq_true (by kernel_rfl)) k2 bel lt2) (trodAll_cons_mk (Below.trod laidOut (by kernel_rfl) (of_decide_eq_true (by kernel_rfl)) k3 bel lt3) (trodAll_cons_mk (Below.trod laidOut (by kernel_rfl) (of_decide_eq_true (by kernel_rfl)) k4 bel lt4) (trodAll_cons_mk (Below.trod laidOut (by kernel_rfl) (of_decide_eq_true (by kernel_rfl)) k5 bel lt5) (trodAll_cons_mk (Below.trod laidOut (by kernel_rfl) (of_decide_eq_true (by kernel_rfl)) k6 bel lt6) (trodAll_cons_mk (shut_int Try.underlying3 w7) trodAll_mk0)))))))), rfl, bel.frame _, fun h => by cases h⟩

theorem over : Rows.fnWatchMatchesModelRow.holds Try.pinned (OpenSpec.ofChange Rows.fnWatchMatchesModelSpec) :=
  OpenClaim.holds_of_wide 6 Try.f6 rfl rfl rfl rfl rfl rfl rfl ⟨rfl, rfl, rfl, rfl, rfl⟩ rfl rfl rfl rfl rfl (by kernel_rfl) Try.func6 (by kernel_rfl)
    (of_decide_eq_true (by kernel_rfl)) (by unfold Func.isWrapper; first | (rw [if_pos (by decide +kernel)]; kernel_rfl) | (rw [if_neg (by decide +kernel)]; exact ⟨rfl, rfl⟩))
    (fun os started H enc _ => lifted os started H enc)

/-- ████ THE STATEMENT ████ -/
theorem proved : Rows.FnWatchMatchesModelSaid := over
#print axioms proved
end Go.Proofs.Qxb6602244a.fnWatchMatchesModel
