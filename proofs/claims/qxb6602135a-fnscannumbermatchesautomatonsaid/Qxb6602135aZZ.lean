/-
  THE WALK OF ZZScanNumber (8), over scanNumber's contract.
-/
import Derived.Test.Qxb6602135aScan
import Derived.Test.Qxb6602135aAuto
import Derived.RegionTactic
import Derived.Deep.QuietTactic
import Derived.BigQuiet
namespace Go.Proofs.Qxb6602135a
open Go.ChangeShapes Go.WideShapes Go.ChangeAt Go.RowKit
set_option linter.unusedVariables false

/-- scanNumber's contract, as the walk in the next text proves it. -/
def ScanSaid : Prop := ∀ (s : ByteArray) (w : World), s.size ≤ 1048576 →
    Calls Try.prog 16 #[.string s] w fun e w' => e = .returned (backN (Plain.scan (s.size + 2000) s.data.toList)) ∧ Below w.heap.size w w'

theorem below_drewN {B : Nat} {a w : World} (h : Below B a w) : ∀ n, Below B a (w.drewN n) := by
  intro n
  exact ⟨h.os, h.tape, h.output, h.size, h.block⟩

set_option maxHeartbeats 1000000 in
theorem zzscan_any (h16 : ScanSaid) (s : ByteArray) (w : World) (hs : s.size ≤ 1048576) :
    Calls Try.prog 8 #[.string s] w fun e w' => e = .returned (back4 (Plain.scan (s.size + 2000) s.data.toList)) ∧ Below w.heap.size w w' := by
  go_enter Try.func8, Try.ntmps8
  go_wp2_with fail
  refine (h16 s _ hs).mono ?_
  rintro e w1 ⟨rfl, hb⟩
  cases hx : Plain.scan (s.size + 2000) s.data.toList with
  | none =>
    simp only [backN]
    have HX : Hid _ := hx
    clear hx
    go_wp2
    go_quiet (fail)
    go_wp2
    (try simp only [Exit.inBlock, Exit.then])
    refine bodyPost_ret (results_tmp4 rfl _ _ _) rfl ?_
    exact ⟨by rw [HX.out]; rfl, below_drewN (hb.alloc hb.size _) _⟩
  | some x =>
    obtain ⟨ng, b, e⟩ := x
    simp only [backN]
    have HX : Hid _ := hx
    clear hx
    go_wp2
    go_quiet (fail)
    go_wp2
    (try simp only [Exit.inBlock, Exit.then])
    refine bodyPost_ret (results_tmp4 rfl _ _ _) rfl ?_
    exact ⟨by rw [HX.out]; rfl, below_drewN (hb.alloc hb.size _) _⟩
end Go.Proofs.Qxb6602135a
