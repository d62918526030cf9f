/-
  AN attempt AND ITS READS: the append law told more of; ZZSetReadsB1 (36), (*scope).saw (51).
-/
import Derived.Test.Qxb6602244aMaps
import Derived.Deep.RegionLaw
import Derived.Laws.AppendOwn
namespace Go.Proofs.Qxb6602244a
open Go.ChangeShapes Go.WideShapes Go.ChangeAt Go.RowKit
set_option linter.unusedVariables false

theorem info93 : (Try.prog.info? 93).map (fun i => (i.zero, i.size, i.bytes)) = some (some (.agg #[.string ⟨#[]⟩, .int .i64 0]), 2, 24) := by kernel_rfl

/-- a read, as cells. -/
def rd (r : ByteArray × Int) : List Value := [.string r.1, .int .i64 r.2]
theorem rd_len (rs : List (ByteArray × Int)) : (rs.flatMap rd).length = rs.length * 2 := by
  induction rs with
  | nil => rfl
  | cons r t ih => simp only [List.flatMap_cons, List.length_append, ih, List.length_cons]; simp [rd]; omega

/-- 'a.reads = append(a.reads, read{..})': the row grows where it is, or moves to a new block. -/
theorem app_read {W : World} {B : Nat} {v : Value} {rs : List (ByteArray × Int)} {nm : ByteArray} {n : Int} {ad : Addr} (ty : TypeId) (hown : W.ownsRow B 93 2 v rs.length (rs.flatMap rd))
    (hc : ∀ j u, (rd (nm, n))[j]? = some u → W.cell? (ad.add j) = some u) (hn : rs.length ≤ 4194304) (hB : B ≤ W.heap.size) :
    ∃ v' w', (Builtin.append_ #[69, 69] ty #[v, .slice (some ad) 1 1]).run Try.prog W = .ok v' w' ∧ w'.ownsRow B 93 2 v' (rs ++ [(nm, n)]).length ((rs ++ [(nm, n)]).flatMap rd) ∧ W.grownBy w' v.ownBlock ∧
      (v'.ownBlock = v.ownBlock ∨ ∃ q, v'.ownBlock = some q ∧ W.heap.size ≤ q) := by
  obtain ⟨i0, hi, hz0, hz1, hz2⟩ := info_parts info93
  have h1 : ∀ u ∈ rd (nm, n), u.oneCell' = true := by intro u hu; simp [rd] at hu; rcases hu with rfl | rfl <;> rfl
  have e1 : rs.flatMap rd ++ rd (nm, n) = (rs ++ [(nm, n)]).flatMap rd := by simp
  have e2 : rs.length + 1 = (rs ++ [(nm, n)]).length := by simp
  obtain ⟨v', w', hr, ho, hg, hnil⟩ := run_append_own (P := Try.prog) W B 69 ty 93 i0 _ 2 24 Try.underlying69 hi hz0 hz1 hz2 rfl (by decide) v rs.length (rs.flatMap rd) hown ad 1 1 (rd (nm, n)) rfl hc h1 (by unfold maxLen; omega) (by omega) hB
  refine ⟨v', w', hr, by rw [← e1, ← e2]; exact ho, hg, ?_⟩
  rcases hown.2 with ⟨hv, h0⟩ | ⟨g, cap, cur, hv, hbg, hgg, hnc, hcm, hcs, htake⟩
  · obtain ⟨v2, w2, hr2, ho2, _, hn2⟩ := run_append_own (P := Try.prog) W W.heap.size 69 ty 93 i0 _ 2 24 Try.underlying69 hi hz0 hz1 hz2 rfl (by decide) v rs.length (rs.flatMap rd) (by rw [hv, h0]; rw [List.eq_nil_of_length_eq_zero h0]; exact World.ownsRow_nil _ _ _ _) ad 1 1 (rd (nm, n)) rfl hc h1 (by unfold maxLen; omega) (by omega) (Nat.le_refl _)
    rw [hr] at hr2
    injection hr2 with hvv _
    subst hvv
    cases hq : v'.ownBlock with
    | none => left; rw [hv]; rfl
    | some q => right; exact ⟨q, rfl, (ho2.lt q hq).1⟩
  · by_cases hroom : rs.length + 1 ≤ cap
    · have hfit : rs.length * i0.size + (rd (nm, n)).length ≤ cur.size := by rw [hz1, hcs]; show rs.length * 2 + 2 ≤ cap * 2; omega
      have hr2 := run_append_room (P := Try.prog) W 69 ty 93 i0 Try.underlying69 hi g rs.length cap cur hgg ad 1 1 (rd (nm, n)) (by rw [hz1]; rfl) hc h1 hroom hfit
      rw [hv] at hr
      rw [hr] at hr2
      injection hr2 with hvv _
      left
      rw [hvv, hv]; rfl
    · have holds : ∀ j u, (rs.flatMap rd)[j]? = some u → W.cell? ((⟨g, 0, none⟩ : Addr).add j) = some u := hown.cells (g := g) (by rw [hv]; rfl)
      have hr2 := run_append_grow (P := Try.prog) W 69 ty 93 i0 _ Try.underlying69 hi hz0 ⟨g, 0, none⟩ rs.length cap (rs.flatMap rd) (by rw [rd_len, hz1]) holds ad 1 1 (rd (nm, n)) (by rw [hz1]; rfl) hc (by omega) (by omega) (by rw [hz2]; exact growslice_fits (by omega) (by omega))
      rw [hv] at hr
      rw [hr] at hr2
      injection hr2 with hvv _
      right
      rw [hvv]; exact ⟨W.heap.size, rfl, Nat.le_refl _⟩

/-- .. as one step of a region that draws its order. -/
theorem step_read {ops : Array Oper} {o : Oper} {a : Act} {W : World} {K : Act → World → Prop} {Q : Exit → Act → World → Prop} {E : Prop} (hgd : o.guard = none) (s x : Operand)
    (ho : o.op = .call { callee := .builtin .append, args := #[s, x], argTypes := #[69, 69] }) (B : Nat) (v : Value) (rs : List (ByteArray × Int)) (nm : ByteArray) (n : Int) (ad : Addr)
    (hs : a.eval s = v) (hx : a.eval x = .slice (some ad) 1 1) (hown : W.ownsRow B 93 2 v rs.length (rs.flatMap rd))
    (hc : ∀ j u, (rd (nm, n))[j]? = some u → W.cell? (ad.add j) = some u) (hn : rs.length ≤ 4194304) (hB : B ≤ W.heap.size)
    (h : ∀ v' w', w'.ownsRow B 93 2 v' (rs ++ [(nm, n)]).length ((rs ++ [(nm, n)]).flatMap rd) → W.grownBy w' v.ownBlock → (v'.ownBlock = v.ownBlock ∨ ∃ q, v'.ownBlock = some q ∧ W.heap.size ≤ q) → K (a.put o.dst v') w') :
    if Region.wanted o (yielded ops a.tmps) = true then Oper.wp Try.prog o a W K Q else E := by
  have hw : Region.wanted o (yielded ops a.tmps) = true := by simp [Region.wanted, hgd]
  rw [if_pos hw]
  obtain ⟨v', w', hr, h2, h3, h4⟩ := app_read o.type hown hc hn hB
  unfold Oper.wp execOp
  simp only [ho, resolve, invoke, builtin, Sem.run_bind, Sem.run_pure, Result.andThen_ok, List.map_toArray, List.map_cons, List.map_nil, hs, hx, hr]
  exact h v' w' h2 h3 h4

theorem cell_at {w : World} {b : Nat} {cs : List Value} {t : TypeId} (h : w.heap[b]? = some (.cells cs.toArray t (0, 0))) (k : Nat) : w.cell? ⟨b, k, none⟩ = cs[k]? := by
  rw [cell_of_row w b k cs.toArray t (0, 0) h]; simp
theorem free_at {w : World} {b : Nat} {cs : Array Value} {t : TypeId} (h : w.heap[b]? = some (.cells cs t (0, 0))) (k : Nat) : w.frozen? ⟨b, k, none⟩ = false := by
  simp [World.frozen?, h]

/-- AN attempt IN BLOCK ab: nn needs, the reads rs in a row of the call's own (block rb). -/
structure Att (w : World) (B ab nn : Nat) (rs : List (ByteArray × Int)) (rb : Option Nat) : Prop where
  ex : ∃ na nc un v nx ch, w.heap[ab]? = some (.cells #[.slice na nn nc, un, v, nx, ch] 71 (0, 0)) ∧ w.ownsRow B 93 2 v rs.length (rs.flatMap rd) ∧ v.ownBlock = rb
end Go.Proofs.Qxb6602244a
