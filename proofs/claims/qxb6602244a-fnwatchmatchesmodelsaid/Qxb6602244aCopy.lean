/-
  'if xs != nil { zzc := make(..); copy(zzc, xs); xs = zzc }': what the copies leave.
-/
import Derived.Test.Qxb6602244aTake
import Derived.Test.Qxb6602244aWb
import Derived.Laws.CopyOwn
import Derived.Deep.DeepCutAuto
namespace Go.Proofs.Qxb6602244a
open Go.ChangeShapes Go.WideShapes Go.ChangeAt Go.RowKit
set_option linter.unusedVariables false
set_option linter.unusedSimpArgs false

theorem size9 : (Try.prog.info? 9).map (·.size) = some 1 := by kernel_rfl
theorem size3 : (Try.prog.info? 3).map (·.size) = some 1 := by kernel_rfl
theorem size4 : (Try.prog.info? 4).map (·.size) = some 1 := by kernel_rfl
theorem neq22 (w : World) (a : Option Addr) (l c : Nat) : (binOp .neq 22 (.slice a l c) (.slice none 0 0)).run Try.prog w = .ok (.bool (!a.isNone)) w := run_neq_slice_nil w 22 9 a l c Try.underlying22
theorem neq43 (w : World) (a : Option Addr) (l c : Nat) : (binOp .neq 43 (.slice a l c) (.slice none 0 0)).run Try.prog w = .ok (.bool (!a.isNone)) w := run_neq_slice_nil w 43 3 a l c Try.underlying43
theorem neq24 (w : World) (a : Option Addr) (l c : Nat) : (binOp .neq 24 (.slice a l c) (.slice none 0 0)).run Try.prog w = .ok (.bool (!a.isNone)) w := run_neq_slice_nil w 24 4 a l c Try.underlying24

section
variable {α : Type} {enc : α → Value}
theorem cop_n (ds : List α) : (ds.map enc).length = Nat.min ds.length ds.length := by simp
theorem cop_pos {w : World} {a : Option Addr} {ds : List α} (hd : Dat enc w a ds) (o : Obj) : 0 < (ds.map enc).length → (some ⟨w.heap.size, 0, none⟩ : Option Addr) = some ⟨w.heap.size, 0, none⟩ ∧ ∃ ad, a = some ad ∧ ∀ j v, (ds.map enc)[j]? = some v → (w.alloc o).cell? (ad.add j) = some v := by
  intro hp
  simp only [List.length_map] at hp
  obtain ⟨b, off, e, hb, hc⟩ := hd.at0 hp
  refine ⟨rfl, _, e, ?_⟩
  intro j v hj
  rw [List.getElem?_map] at hj
  obtain ⟨d, hd1, rfl⟩ := Option.map_eq_some_iff.1 hj
  obtain ⟨hjl, rfl⟩ := List.getElem?_eq_some_iff.1 hd1
  have e2 : (⟨b, off, none⟩ : Addr).add j = ⟨b, off + j, none⟩ := by unfold Addr.add; split <;> simp_all
  rw [e2, ((Below.refl w.heap.size w).alloc (Nat.le_refl _) o).cell (p := ⟨b, off + j, none⟩) hb]
  exact hc j hjl
theorem cop_fit (ds : List α) (z : Value) : 0 + (ds.map enc).length ≤ (List.replicate ds.length z).length := by simp
theorem cop_dat {w W : World} {t : TypeId} {ds : List α} {z : Value} (h : W.heap[w.heap.size]? = some (.cells (splice (List.replicate ds.length z) 0 (ds.map enc)).toArray t (0, 0))) : Dat enc W (some ⟨w.heap.size, 0, none⟩) ds := by
  have e : splice (List.replicate ds.length z) 0 (ds.map enc) = ds.map enc := by simp [splice]
  rw [e] at h
  refine ⟨fun hp => ⟨_, 0, rfl, (Array.getElem?_eq_some_iff.1 h).1, fun i hi => ?_⟩⟩
  rw [Nat.zero_add, cell_at h]
  simp [hi]
end
theorem one_s (ds : List ByteArray) : ∀ v ∈ ds.map Value.string, v.oneCell' = true := by intro v hv; simp at hv; obtain ⟨y, _, rfl⟩ := hv; rfl
theorem one_i (ds : List Int) : ∀ v ∈ ds.map (Value.int .i64), v.oneCell' = true := by intro v hv; simp at hv; obtain ⟨y, _, rfl⟩ := hv; rfl
theorem one_b (ds : List Bool) : ∀ v ∈ ds.map Value.bool, v.oneCell' = true := by intro v hv; obtain ⟨y, _, rfl⟩ := List.mem_map.1 hv; rfl
/-- WHAT A COPY LEAVES. -/
def Cpd {α : Type} (enc : α → Value) (w : World) (ds : List α) (v : Value) (W : World) : Prop := ∃ a c, v = .slice a ds.length c ∧ Dat enc W a ds ∧ Below w.heap.size w W
end Go.Proofs.Qxb6602244a
