/-
  WHAT THE WATCH LAWS' WALKS CARRY FROM CALL TO CALL.
-/
import Derived.Test.Qxb6602244aCopy
namespace Go.Proofs.Qxb6602244a
open Go.ChangeShapes Go.WideShapes Go.ChangeAt Go.RowKit
set_option linter.unusedVariables false
set_option linter.unusedSimpArgs false

theorem dat_nil {α : Type} (enc : α → Value) (w : World) (a : Option Addr) : Dat enc w a [] := ⟨fun h => absurd h (by simp)⟩
theorem own_keepC {w w' : World} {B : Nat} {e : TypeId} {z : Nat} {v : Value} {n : Nat} {xs : List Value} (h : w.ownsRow B e z v n xs) (k : KeepsC w w') : w'.ownsRow B e z v n xs := by
  refine ⟨h.1, ?_⟩
  rcases h.2 with h2 | ⟨g, cap, cur, hv, hbg, hg, r⟩
  · exact .inl h2
  · exact .inr ⟨g, cap, cur, hv, hbg, k _ _ _ _ hg, r⟩
theorem Att.keepC {w w' : World} {B ab nn : Nat} {rs : List (ByteArray × Int)} {rb : Option Nat} (h : Att w B ab nn rs rb) (k : KeepsC w w') : Att w' B ab nn rs rb := by
  obtain ⟨na, nc, un, v, nx, ch, hb, hown, hrb⟩ := h.ex
  exact ⟨na, nc, un, v, nx, ch, k _ _ _ _ hb, own_keepC hown k, hrb⟩
theorem cells_of_cell {w : World} {a : Addr} {v : Value} (h : w.cell? a = some v) : ∃ cs t fz, w.heap[a.block]? = some (.cells cs t fz) := by
  unfold World.cell? at h
  split at h
  · rename_i c t fz hh; exact ⟨c, t, fz, hh⟩
  · cases h
theorem Dat.cross {α : Type} {enc : α → Value} {w w' : World} {q : Nat} {ds : List α} (h : Dat enc w (some ⟨q, 0, none⟩) ds) (hk : ∀ cs t fz, w.heap[q]? = some (.cells cs t fz) → w'.heap[q]? = some (.cells cs t fz)) : Dat enc w' (some ⟨q, 0, none⟩) ds := by
  refine ⟨fun hp => ?_⟩
  obtain ⟨b, off, e, hlt, hc⟩ := h.at0 hp
  injection e with e
  injection e with e1 e2
  subst e1
  subst e2
  obtain ⟨cs, t, fz, hh⟩ := cells_of_cell (hc 0 hp)
  have hh' := hk _ _ _ hh
  refine ⟨q, 0, rfl, (Array.getElem?_eq_some_iff.1 hh').1, fun i hi => ?_⟩
  rw [World.cell?_of_block (w := w) (by rw [hh']; exact hh.symm)]
  exact hc i hi

/-- the scope, the watchers, the other attempt. -/
structure St (v w : World) (sb wm ab ob : Nat) (cs : List Value) (M : Wms) : Prop where
  bel : Below v.heap.size v w
  sc : w.heap[sb]? = some (.cells cs.toArray 87 (0, 0))
  wat : ∃ f, Wat w v.heap.size wm ab ob f M
  oth : ∃ co, w.heap[ob]? = some (.cells co 71 (0, 0))
theorem St.on {v w w' : World} {sb wm ab ob : Nat} {cs : List Value} {M : Wms} (h : St v w sb wm ab ob cs M) (hb : Below w.heap.size w w') : St v w' sb wm ab ob cs M := by
  obtain ⟨f, hW⟩ := h.wat
  obtain ⟨co, hO⟩ := h.oth
  exact ⟨h.bel.trans (hb.mono h.bel.size), KeepsC.below hb _ _ _ _ h.sc, ⟨f, hW.keep (Keeps.below hb)⟩, co, KeepsC.below hb _ _ _ _ hO⟩
/-- behind ZZSetReadsB1. -/
theorem St.chg {v w w' : World} {sb wm ab ob : Nat} {cs : List Value} {M : Wms} {ca : Array Value} (h : St v w sb wm ab ob cs M) (hC : Chg w w' ab none) (ha : w.heap[ab]? = some (.cells ca 71 (0, 0))) (hab : v.heap.size ≤ ab) (hne : ab ≠ ob) : St v w' sb wm ab ob cs M := by
  obtain ⟨f, hW⟩ := h.wat
  obtain ⟨co, hO⟩ := h.oth
  refine ⟨hC.below h.bel hab (by simp), ?_, ⟨f, hW.keep (Keeps.chg hC ha (by simp))⟩, co, ?_⟩
  · rw [hC.block sb (Array.getElem?_eq_some_iff.1 h.sc).1 (by intro e; rw [← e, h.sc] at ha; simp at ha) (by simp)]; exact h.sc
  · rw [hC.block ob (Array.getElem?_eq_some_iff.1 hO).1 (Ne.symm hne) (by simp)]; exact hO
/-- behind watch. -/
theorem St.watched {v w w' : World} {sb wm ab ob nn : Nat} {cs : List Value} {M M' : Wms} {ca : Array Value} {e : Ending} (h : St v w sb wm ab ob cs M) (ha : w.heap[ab]? = some (.cells ca 71 (0, 0))) (hP : WPost v w wm ab ob nn M' e w') (hne : ab ≠ ob) : St v w' sb wm ab ob cs M' := by
  obtain ⟨_, hw, hb, hk, _, _⟩ := hP
  obtain ⟨co, hO⟩ := h.oth
  exact ⟨hb, hk _ _ _ _ (by intro e; rw [← e, h.sc] at ha; simp at ha) h.sc, hw, co, hk _ _ _ _ (Ne.symm hne) hO⟩
theorem chg_cells {w w' : World} {ab k : Nat} (hC : Chg w w' ab none) (hne : k ≠ ab) : ∀ cs t fz, w.heap[k]? = some (.cells cs t fz) → w'.heap[k]? = some (.cells cs t fz) := by
  intro cs t fz h
  rw [hC.block k (Array.getElem?_eq_some_iff.1 h).1 hne (by simp)]; exact h
end Go.Proofs.Qxb6602244a
