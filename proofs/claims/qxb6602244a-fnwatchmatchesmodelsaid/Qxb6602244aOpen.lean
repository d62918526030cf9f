/-
  THE ARGUMENTS OPENED: slices of strings, ints, bools; frames.
-/
import Derived.Test.Qxb6602244aFrames
import Derived.Deep.Slices
import Derived.OpenShut
namespace Go.Proofs.Qxb6602244a
open Go.ChangeShapes Go.WideShapes Go.ChangeAt Go.RowKit Go.Deep
set_option linter.unusedVariables false

section
variable {H : Type} {enc : TypeId × Value → H} {w : World} {base : Nat} {spare : Nat → Bool} {held : Bool}

theorem cells22 : Try.prog.cellsOf 22 = 1 := by kernel_rfl
theorem cells24 : Try.prog.cellsOf 24 = 1 := by kernel_rfl
theorem cells43 : Try.prog.cellsOf 43 = 1 := by kernel_rfl
theorem cells9 : Try.prog.cellsOf 9 = 1 := by kernel_rfl
theorem cells4 : Try.prog.cellsOf 4 = 1 := by kernel_rfl
theorem cells3 : Try.prog.cellsOf 3 = 1 := by kernel_rfl
theorem cells45 : Try.prog.cellsOf 45 = 7 := by kernel_rfl

theorem add_plain' (b off k : Nat) : (⟨b, off, none⟩ : Addr).add k = ⟨b, off + k, none⟩ := by unfold Addr.add; split <;> simp_all

/-- a slice whose elements are one cell each. -/
theorem dat_open {α : Type} [Inhabited α] {en : α → Value} {ok : α → Prop} {t e : TypeId} {fuel : Nat} {cs : List Value} {x : DataW H × List MemPlace} (ht : Try.prog.underlying t = some (.slice e)) (hc : Try.prog.cellsOf e = 1)
    (hel : ∀ n v y, DataW.trod enc Try.prog w base spare held n e [v] = some y → ∃ d : α, v = en d ∧ ok d) (h : DataW.trod enc Try.prog w base spare held fuel t cs = some x) :
    ∃ (a : Option Addr) (ds : List α) (cap : Nat), cs = [.slice a ds.length cap] ∧ Dat en w a ds ∧ ds.length ≤ 9223372036854775807 ∧ ∀ d ∈ ds, ok d := by
  rcases open_slice1 ht hc h with ⟨h0, _⟩ | ⟨a, len, cap, m, n, V, D, Pl, hcs, hb, hl, hm, hmm, hx, hV⟩
  · exact ⟨none, [], 0, h0, ⟨fun h => absurd h (by simp)⟩, by simp, by simp⟩
  · have hlm : len ≤ m := by rw [hmm]; split <;> omega
    obtain ⟨f, hf⟩ := choose_lt (α := α) (p := fun i d => V i = en d ∧ ok d) (n := m) (fun i hi => hel n _ _ (hV i hi).2)
    refine ⟨some a, (List.range len).map f, cap, by simpa using hcs, ⟨?_⟩, by unfold maxLen at hm; simp; omega, ?_⟩
    · intro hp
      simp at hp
      obtain ⟨b, off, spot⟩ := a
      have hspot : spot = none := by simpa [Addr.add] using World.cell?_spot ((hV 0 (by omega)).1)
      subst hspot
      refine ⟨b, off, rfl, World.block_lt_of_cell? w ⟨b, off + 0, none⟩ (by rw [← add_plain']; exact (hV 0 (by omega)).1), ?_⟩
      intro i hi
      simp at hi
      rw [← add_plain', (hV i (by omega)).1, (hf i (by omega)).1]
      simp
    · intro d hd
      simp at hd
      obtain ⟨i, hi, rfl⟩ := hd
      exact (hf i (by omega)).2

theorem dat_strs {fuel : Nat} {cs : List Value} {x : DataW H × List MemPlace} (h : DataW.trod enc Try.prog w base spare held fuel 22 cs = some x) :
    ∃ (a : Option Addr) (ds : List ByteArray) (cap : Nat), cs = [.slice a ds.length cap] ∧ Dat Value.string w a ds ∧ ds.length ≤ 9223372036854775807 ∧ ∀ d ∈ ds, d.size ≤ 9223372036854775807 :=
  dat_open Try.underlying22 cells9 (fun n v y hy => by
    obtain ⟨s, h1, _, h3⟩ := DataW.trod_string Try.underlying9 hy
    exact ⟨s, by simpa using h1, by unfold maxLen at h3; omega⟩) h
theorem dat_bools {fuel : Nat} {cs : List Value} {x : DataW H × List MemPlace} (h : DataW.trod enc Try.prog w base spare held fuel 24 cs = some x) :
    ∃ (a : Option Addr) (ds : List Bool) (cap : Nat), cs = [.slice a ds.length cap] ∧ Dat Value.bool w a ds ∧ ds.length ≤ 9223372036854775807 := by
  obtain ⟨a, ds, cap, h1, h2, h3, _⟩ := dat_open (ok := fun _ : Bool => True) (en := Value.bool) Try.underlying24 cells4 (fun n v y hy => by
    obtain ⟨b, h1, _⟩ := DataW.trod_bool Try.underlying4 hy
    exact ⟨b, by simpa using h1, trivial⟩) h
  exact ⟨a, ds, cap, h1, h2, h3⟩
/-- an int, in its bounds. -/
def inI64 (d : Int) : Prop := -9223372036854775808 ≤ d ∧ d ≤ 9223372036854775807
theorem dat_ints {fuel : Nat} {cs : List Value} {x : DataW H × List MemPlace} (h : DataW.trod enc Try.prog w base spare held fuel 43 cs = some x) :
    ∃ (a : Option Addr) (ds : List Int) (cap : Nat), cs = [.slice a ds.length cap] ∧ Dat (Value.int .i64) w a ds ∧ ds.length ≤ 9223372036854775807 ∧ ∀ d ∈ ds, inI64 d :=
  dat_open (en := Value.int .i64) (ok := inI64) Try.underlying43 cells3 (fun n v y hy => by
    obtain ⟨b, h1, _, h3⟩ := DataW.trod_int Try.underlying3 hy
    have h4 := bounds_i64 h3
    exact ⟨b, by simpa using h1, h4⟩) h

theorem seven {α : Type} (l : List α) (h : l.length = 7) : ∃ a b c d e f g, l = [a, b, c, d, e, f, g] := by
  match l, h with
  | [a, b, c, d, e, f, g], _ => exact ⟨a, b, c, d, e, f, g, rfl⟩
/-- one frame. -/
theorem open_frame {fuel : Nat} {cs : List Value} {x : DataW H × List MemPlace} (h : DataW.trod enc Try.prog w base spare held fuel 45 cs = some x) :
    ∃ f : Fr, cs = [.slice f.a1 f.vn.length f.c1, .slice f.a2 f.vb.length f.c2, .slice f.a3 f.dc.length f.c3, .bool f.hw, .int .i64 f.nn, .slice f.a6 f.rn.length f.c6, .slice f.a7 f.ra.length f.c7] ∧ FrDat w f := by
  obtain ⟨xs, n, _, _, hl, hlen, hf⟩ := DataW.trod_struct Try.underlying45 h
  rw [cells45] at hl
  obtain ⟨v0, v1, v2, v3, v4, v5, v6, rfl⟩ := seven cs hl
  obtain ⟨y0, y1, y2, y3, y4, y5, y6, rfl⟩ := seven xs hlen
  have f0 : DataW.trod enc Try.prog w base spare held n 22 (([v0, v1, v2, v3, v4, v5, v6].drop 0).take (Try.prog.cellsOf 22)) = some y0 := hf 0 ⟨_, 22, 0, _, _, _, _⟩ rfl
  rw [cells22] at f0
  have f1 : DataW.trod enc Try.prog w base spare held n 24 (([v0, v1, v2, v3, v4, v5, v6].drop 1).take (Try.prog.cellsOf 24)) = some y1 := hf 1 ⟨_, 24, 1, _, _, _, _⟩ rfl
  rw [cells24] at f1
  have f2 : DataW.trod enc Try.prog w base spare held n 22 (([v0, v1, v2, v3, v4, v5, v6].drop 2).take (Try.prog.cellsOf 22)) = some y2 := hf 2 ⟨_, 22, 2, _, _, _, _⟩ rfl
  rw [cells22] at f2
  have f3 : DataW.trod enc Try.prog w base spare held n 4 (([v0, v1, v2, v3, v4, v5, v6].drop 3).take (Try.prog.cellsOf 4)) = some y3 := hf 3 ⟨_, 4, 3, _, _, _, _⟩ rfl
  rw [cells4] at f3
  have f4 : DataW.trod enc Try.prog w base spare held n 3 (([v0, v1, v2, v3, v4, v5, v6].drop 4).take (Try.prog.cellsOf 3)) = some y4 := hf 4 ⟨_, 3, 4, _, _, _, _⟩ rfl
  rw [cells3] at f4
  have f5 : DataW.trod enc Try.prog w base spare held n 22 (([v0, v1, v2, v3, v4, v5, v6].drop 5).take (Try.prog.cellsOf 22)) = some y5 := hf 5 ⟨_, 22, 5, _, _, _, _⟩ rfl
  rw [cells22] at f5
  have f6 : DataW.trod enc Try.prog w base spare held n 43 (([v0, v1, v2, v3, v4, v5, v6].drop 6).take (Try.prog.cellsOf 43)) = some y6 := hf 6 ⟨_, 43, 6, _, _, _, _⟩ rfl
  rw [cells43] at f6
  obtain ⟨a1, vn, c1, e1, d1, l1, s1⟩ := dat_strs f0
  obtain ⟨a2, vb, c2, e2, d2, l2⟩ := dat_bools f1
  obtain ⟨a3, dc, c3, e3, d3, l3, s3⟩ := dat_strs f2
  obtain ⟨hw, e4, _⟩ := DataW.trod_bool Try.underlying4 f3
  obtain ⟨nn, e5, _, w5⟩ := DataW.trod_int Try.underlying3 f4
  obtain ⟨a6, rn, c6, e6, d6, l6, s6⟩ := dat_strs f5
  obtain ⟨a7, ra, c7, e7, d7, l7, _⟩ := dat_ints f6
  obtain ⟨b0, b1⟩ := bounds_i64 w5
  cases e1
  cases e2
  cases e3
  cases e4
  cases e5
  cases e6
  cases e7
  exact ⟨⟨a1, a2, a3, a6, a7, c1, c2, c3, c6, c7, vn, vb, dc, hw, nn, rn, ra⟩, rfl, ⟨d1, d2, d3, d6, d7, l1, l2, l3, l6, l7, s1, s3, s6, b0, b1⟩⟩

theorem open_frames {fuel : Nat} {cs : List Value} {x : DataW H × List MemPlace} (h : DataW.trod enc Try.prog w base spare held fuel 34 cs = some x) :
    ∃ (a : Option Addr) (fs : List Fr) (cap : Nat), cs = [.slice a fs.length cap] ∧ Frames w a fs := by
  rcases open_slice Try.underlying34 h with ⟨h0, _⟩ | ⟨a, len, cap, m, n, D, Pl, hcs, hb, hl, hm, hmm, hx, hV⟩
  · exact ⟨none, [], 0, h0, ⟨fun h => absurd h (by simp), by simp, by simp⟩⟩
  · have hlm : len ≤ m := by rw [hmm]; split <;> omega
    rw [cells45] at hV
    have hex : ∀ i, i < m → ∃ f : Fr, w.cells? base (a.add (i * 7)) 7 = some [.slice f.a1 f.vn.length f.c1, .slice f.a2 f.vb.length f.c2, .slice f.a3 f.dc.length f.c3, .bool f.hw, .int .i64 f.nn, .slice f.a6 f.rn.length f.c6, .slice f.a7 f.ra.length f.c7] ∧ FrDat w f := by
      intro i hi
      obtain ⟨cs', h1, h2⟩ := hV i hi
      obtain ⟨f, h3, h4⟩ := open_frame h2
      exact ⟨f, by rw [h1, h3], h4⟩
    by_cases hlen : len = 0
    · subst hlen
      exact ⟨some a, [], cap, hcs, ⟨fun h => absurd h (by simp), by simp, by simp⟩⟩
    · obtain ⟨f0, _, _⟩ := hex 0 (by omega)
      have hch : ∃ g : Nat → Fr, ∀ i, i < m → w.cells? base (a.add (i * 7)) 7 = some [.slice (g i).a1 (g i).vn.length (g i).c1, .slice (g i).a2 (g i).vb.length (g i).c2, .slice (g i).a3 (g i).dc.length (g i).c3, .bool (g i).hw, .int .i64 (g i).nn, .slice (g i).a6 (g i).rn.length (g i).c6, .slice (g i).a7 (g i).ra.length (g i).c7] ∧ FrDat w (g i) := by
        refine ⟨fun i => if h : i < m then Classical.choose (hex i h) else f0, fun i hi => ?_⟩
        simp only [dif_pos hi]
        exact Classical.choose_spec (hex i hi)
      obtain ⟨g, hg⟩ := hch
      have hsp : a.spot = none := by
        obtain ⟨_, _, hc⟩ := World.cells?_some (hg 0 (by omega)).1
        have h0 := hc 0 (by omega)
        simp only [List.getElem?_cons_zero] at h0
        have := World.cell?_spot h0
        simpa [Addr.add] using this
      obtain ⟨b, off, spot⟩ := a
      simp only at hsp
      subst hsp
      refine ⟨some ⟨b, off, none⟩, (List.range len).map g, cap, by simpa using hcs, ⟨?_, ?_, by unfold maxLen at hm; simp; omega⟩⟩
      · intro hp
        have key : ∀ i, i < m → ∀ j, j < 7 → w.cell? ⟨b, off + i * 7 + j, none⟩ = [Value.slice (g i).a1 (g i).vn.length (g i).c1, .slice (g i).a2 (g i).vb.length (g i).c2, .slice (g i).a3 (g i).dc.length (g i).c3, .bool (g i).hw, .int .i64 (g i).nn, .slice (g i).a6 (g i).rn.length (g i).c6, .slice (g i).a7 (g i).ra.length (g i).c7][j]? := by
          intro i hi j hj
          obtain ⟨_, _, hc⟩ := World.cells?_some (hg i hi).1
          have := hc j hj
          rw [add_plain', add_plain'] at this
          exact this
        have h00 := key 0 (by omega) 0 (by omega)
        refine ⟨b, off, rfl, World.block_lt_of_cell? w ⟨b, off + 0 * 7 + 0, none⟩ h00, ?_⟩
        intro i hi
        simp at hi
        simp only [List.getElem_map, List.getElem_range]
        exact ⟨key i (by omega) 0 (by omega), key i (by omega) 1 (by omega), key i (by omega) 2 (by omega), key i (by omega) 3 (by omega), key i (by omega) 4 (by omega), key i (by omega) 5 (by omega), key i (by omega) 6 (by omega)⟩
      · intro f hf
        simp at hf
        obtain ⟨i, hi, rfl⟩ := hf
        exact (hg i (by omega)).2
end
end Go.Proofs.Qxb6602244a
