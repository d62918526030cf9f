/-
  (*scope).saw (51).
-/
import Derived.Test.Qxb6602244aAtt
namespace Go.Proofs.Qxb6602244a
open Go.ChangeShapes Go.WideShapes Go.ChangeAt Go.RowKit
set_option linter.unusedVariables false

/-- of the old blocks only ab and rb may have turned. -/
structure Chg (w w' : World) (ab : Nat) (rb : Option Nat) : Prop where
  os : w'.os = w.os
  tape : w'.tape = w.tape
  output : w'.output = w.output
  size : w.heap.size ≤ w'.heap.size
  block : ∀ k, k < w.heap.size → k ≠ ab → some k ≠ rb → w'.heap[k]? = w.heap[k]?

set_option maxHeartbeats 1000000 in
theorem saw_nil (sb : Nat) (name : ByteArray) (w : World) (h : w.cell? ⟨sb, 6, none⟩ = some (.pointer none)) :
    Calls Try.prog 51 #[.pointer (some ⟨sb, 0, none⟩), .string name] w fun e w' => e = .returned (.tuple #[]) ∧ w' = w := by
  go_enter Try.func51, Try.ntmps51
  go_wp2
  go_end0
  exact ⟨rfl, rfl⟩

theorem own_alloc_drew {w : World} {B : Nat} {e : TypeId} {z : Nat} {v : Value} {n : Nat} {xs : List Value} (h : w.ownsRow B e z v n xs) (o : Obj) : (w.alloc o).drew.ownsRow B e z v n xs := h.alloc o
theorem rd_cells (w : World) (nm : ByteArray) (n : Int) : ∀ j u, (rd (nm, n))[j]? = some u → (w.alloc (.cells #[.string nm, .int .i64 n] 93)).drew.cell? ((⟨w.heap.size, 0, none⟩ : Addr).add j) = some u := by
  intro j u hj
  have e : (⟨w.heap.size, 0, none⟩ : Addr).add j = ⟨w.heap.size, j, none⟩ := by unfold Addr.add; split <;> simp_all
  rw [e]
  show (w.alloc (.cells #[.string nm, .int .i64 n] 93)).cell? ⟨w.heap.size, j, none⟩ = some u
  rw [cell_of_row _ w.heap.size j _ 93 (0, 0) (heap_alloc_new w _)]
  simpa [rd] using hj

/-- a row's block holds cells of its own element type. -/
theorem own_block {w : World} {B : Nat} {e : TypeId} {z : Nat} {v : Value} {n : Nat} {xs : List Value} (h : w.ownsRow B e z v n xs) {k : Nat} (hk : v.ownBlock = some k) : ∃ cur, w.heap[k]? = some (.cells cur e (0, 0)) := by
  rcases h.2 with ⟨rfl, _⟩ | ⟨g, cap, cur, rfl, _, hg, _⟩
  · simp [Value.ownBlock] at hk
  · simp [Value.ownBlock] at hk; subst hk; exact ⟨cur, hg⟩
theorem own_slice {w : World} {B : Nat} {e : TypeId} {z : Nat} {v : Value} {n : Nat} {xs : List Value} (h : w.ownsRow B e z v n xs) : ∃ a m c, v = .slice a m c := by
  rcases h.2 with ⟨rfl, rfl⟩ | ⟨g, cap, cur, rfl, _⟩
  · exact ⟨none, 0, 0, rfl⟩
  · exact ⟨_, _, _, rfl⟩
/-- an attempt's block behind the append. -/
theorem att_block {w w1 : World} {B ab : Nat} {v : Value} {n : Nat} {xs : List Value} {cs : Array Value} {o : Obj} (hb : w.heap[ab]? = some (.cells cs 71 (0, 0))) (hown : w.ownsRow B 93 2 v n xs) (hg : (w.alloc o).drew.grownBy w1 v.ownBlock) :
    w1.heap[ab]? = some (.cells cs 71 (0, 0)) := by
  have hlt : ab < w.heap.size := (Array.getElem?_eq_some_iff.1 hb).1
  have hs : (w.alloc o).drew.heap.size = w.heap.size + 1 := by show (w.alloc o).heap.size = _; simp
  have hne : some ab ≠ v.ownBlock := by
    intro e
    obtain ⟨cur, hc⟩ := own_block hown e.symm
    rw [hb] at hc; simp at hc
  rw [hg.block ab (by omega) hne]
  show (w.alloc o).heap[ab]? = _
  rw [Below.heap_alloc w o ab hlt]; exact hb
theorem chg_of {w w1 : World} {ab : Nat} {v x : Value} {o : Obj} (hg : (w.alloc o).drew.grownBy w1 v.ownBlock) : Chg w (w1.setCell ⟨ab, 2, none⟩ x) ab v.ownBlock where
  os := hg.os
  tape := hg.tape
  output := hg.output
  size := by
    rw [World.size_setCell]
    have hs : (w.alloc o).drew.heap.size = w.heap.size + 1 := by show (w.alloc o).heap.size = _; simp
    have := hg.size; omega
  block := by
    intro k hk hne hne2
    have hs : (w.alloc o).drew.heap.size = w.heap.size + 1 := by show (w.alloc o).heap.size = _; simp
    rw [heap_setCell_other w1 ⟨ab, 2, none⟩ k x hne, hg.block k (by omega) hne2]
    show (w.alloc o).heap[k]? = _
    exact Below.heap_alloc w o k hk
theorem own_set {w : World} {B ab i : Nat} {v x : Value} {n : Nat} {xs : List Value} {cs : Array Value} (hb : w.heap[ab]? = some (.cells cs 71 (0, 0))) (h : w.ownsRow B 93 2 v n xs) : (w.setCell ⟨ab, i, none⟩ x).ownsRow B 93 2 v n xs := by
  refine ⟨h.1, ?_⟩
  rcases h.2 with h2 | ⟨g, cap, cur, hv, hbg, hg, r⟩
  · exact .inl h2
  · refine .inr ⟨g, cap, cur, hv, hbg, ?_, r⟩
    rw [heap_setCell_other w ⟨ab, i, none⟩ g x (by intro e; change g = ab at e; rw [e, hb] at hg; simp at hg)]
    exact hg

theorem push_end {w w1 : World} {B ab nn : Nat} {rs : List (ByteArray × Int)} {nm : ByteArray} {n : Int} {v v' : Value} {na : Option Addr} {nc : Nat} {un nx ch : Value} {rb : Option Nat} {o : Obj}
    (hb : w.heap[ab]? = some (.cells #[.slice na nn nc, un, v, nx, ch] 71 (0, 0))) (hown : w.ownsRow B 93 2 v rs.length (rs.flatMap rd)) (hrb : v.ownBlock = rb)
    (h1 : w1.ownsRow B 93 2 v' (rs ++ [(nm, n)]).length ((rs ++ [(nm, n)]).flatMap rd)) (h2 : (w.alloc o).drew.grownBy w1 v.ownBlock)
    (h3 : v'.ownBlock = v.ownBlock ∨ ∃ q, v'.ownBlock = some q ∧ (w.alloc o).drew.heap.size ≤ q) :
    ∃ rb', Att (w1.setCell ⟨ab, 2, none⟩ v') B ab nn (rs ++ [(nm, n)]) rb' ∧ (rb' = rb ∨ ∃ q, rb' = some q ∧ w.heap.size ≤ q) ∧ Chg w (w1.setCell ⟨ab, 2, none⟩ v') ab rb := by
  have hb1 := att_block hb hown h2
  have hs : (w.alloc o).drew.heap.size = w.heap.size + 1 := by show (w.alloc o).heap.size = _; simp
  refine ⟨v'.ownBlock, ⟨na, nc, un, v', nx, ch, ?_, own_set hb1 h1, rfl⟩, ?_, ?_⟩
  · rw [heap_setCell_same w1 ab 2 _ 71 v' hb1]; rfl
  · rcases h3 with h3 | ⟨q, hq, hl⟩
    · left; rw [h3, hrb]
    · right; exact ⟨q, hq, by omega⟩
  · rw [← hrb]; exact chg_of h2

set_option maxHeartbeats 2000000 in
theorem saw_walk (sb B ab nn : Nat) (rs : List (ByteArray × Int)) (rb : Option Nat) (name : ByteArray) (w : World) (h : w.cell? ⟨sb, 6, none⟩ = some (.pointer (some ⟨ab, 0, none⟩)))
    (hA : Att w B ab nn rs rb) (hn : rs.length ≤ 4194304) (hB : B ≤ w.heap.size) :
    Calls Try.prog 51 #[.pointer (some ⟨sb, 0, none⟩), .string name] w fun e w' => e = .returned (.tuple #[]) ∧ ∃ rb', Att w' B ab nn (rs ++ [(name, (nn : Int))]) rb' ∧ (rb' = rb ∨ ∃ q, rb' = some q ∧ w.heap.size ≤ q) ∧ Chg w w' ab rb := by
  obtain ⟨na, nc, un, v, nx, ch, hb, hown, hrb⟩ := hA.ex
  have c0 := cell_at (cs := [_, _, _, _, _]) hb 0
  have c2 := cell_at (cs := [_, _, _, _, _]) hb 2
  have f2 := free_at hb 2
  simp only [List.getElem?_cons_succ, List.getElem?_cons_zero] at c0 c2
  have hlt : ab < w.heap.size := (Array.getElem?_eq_some_iff.1 hb).1
  have HB : Hid _ := hb
  have HR : Hid _ := hrb
  clear hb hrb hA
  go_enter Try.func51, Try.ntmps51
  go_wp2
  go_region_law (refine step_read rfl (.tmp 15) (.tmp 23) rfl B v rs name nn ⟨w.heap.size, 0, none⟩ rfl rfl (own_alloc_drew hown _) (rd_cells w name nn) (by omega) (by simp; omega) ?_; intro v' w1 h1 h2 h3; obtain ⟨va, vm, vc, rfl⟩ := own_slice h1; have k1 := cell_at (cs := [_, _, _, _, _]) (att_block HB.out hown h2) 2; have k2 := free_at (att_block HB.out hown h2) 2; simp only [List.getElem?_cons_succ, List.getElem?_cons_zero] at k1)
  all_goals
    go_wp2
    go_end0
    exact ⟨rfl, push_end HB.out hown HR.out h1 h2 h3⟩
end Go.Proofs.Qxb6602244a
