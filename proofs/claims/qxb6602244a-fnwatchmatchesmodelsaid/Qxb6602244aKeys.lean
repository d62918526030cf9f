/-
  zzWatchKeysB1 (43), zzWatchNameListB1 (46).
-/
import Derived.Test.Qxb6602244aNewAtt
import Derived.Test.Qxb6602244aSnap
import Derived.Laws.OwnMore
namespace Go.Proofs.Qxb6602244a
open Go.ChangeShapes Go.WideShapes Go.ChangeAt Go.RowKit
set_option linter.unusedVariables false
set_option linter.unusedSimpArgs false

/-- an append whose run is known, in a region that draws. -/
theorem step_app {ops : Array Oper} {o : Oper} {a : Act} {W : World} {K : Act → World → Prop} {Q : Exit → Act → World → Prop} {E : Prop} (hgd : o.guard = none) (s x : Operand) (t : TypeId)
    (ho : o.op = .call { callee := .builtin .append, args := #[s, x], argTypes := #[t, t] }) (v u v' : Value) (w' : World) (hs : a.eval s = v) (hx : a.eval x = u)
    (hr : (Builtin.append_ #[t, t] o.type #[v, u]).run Try.prog W = .ok v' w') (h : K (a.put o.dst v') w') :
    if Region.wanted o (yielded ops a.tmps) = true then Oper.wp Try.prog o a W K Q else E := by
  have hw : Region.wanted o (yielded ops a.tmps) = true := by simp [Region.wanted, hgd]
  rw [if_pos hw]
  unfold Oper.wp execOp
  simp only [ho, resolve, invoke, builtin, Sem.run_bind, Sem.run_pure, Result.andThen_ok, List.map_toArray, List.map_cons, List.map_nil, hs, hx, hr]
  exact h

theorem grown_below {w0 w w' : World} {row : Option Nat} (hb : Below w0.heap.size w0 w) (hg : w.grownBy w' row) (hr : ∀ q, row = some q → w0.heap.size ≤ q) : Below w0.heap.size w0 w' :=
  ⟨hg.os.trans hb.os, hg.tape.trans hb.tape, hg.output.trans hb.output, Nat.le_trans hb.size hg.size, fun k hk => by
    rw [hg.block k (Nat.lt_of_lt_of_le hk hb.size) (by intro e; have := hr k e.symm; omega)]; exact hb.block k hk⟩

/-- two rows of the call's own, one of strings, one of ints; the box of the argument. -/
structure Kb (w wr : World) (bx : List Value) (v u : Value) (ss : List ByteArray) (zs : List Int) : Prop where
  bel : Below w.heap.size w wr
  box : wr.heap[w.heap.size]? = some (.cells bx.toArray 59 (0, 0))
  o1 : wr.ownsRow (w.heap.size + 1) 9 1 v ss.length (ss.map Value.string)
  o2 : wr.ownsRow (w.heap.size + 1) 3 1 u zs.length (zs.map (Value.int .i64))

theorem own_below {w w' : World} {B : Nat} {e : TypeId} {z : Nat} {v : Value} {n : Nat} {xs : List Value} (h : w.ownsRow B e z v n xs) (hb : Below w.heap.size w w') : w'.ownsRow B e z v n xs := by
  refine ⟨h.1, ?_⟩
  rcases h.2 with h2 | ⟨g, cap, cur, hv, hbg, hg, r⟩
  · exact .inl h2
  · exact .inr ⟨g, cap, cur, hv, hbg, by rw [hb.block g (Array.getElem?_eq_some_iff.1 hg).1]; exact hg, r⟩
theorem own_ne {w : World} {B B' : Nat} {e e' : TypeId} {z z' : Nat} {v v' : Value} {n n' : Nat} {xs xs' : List Value} (h : w.ownsRow B e z v n xs) (h' : w.ownsRow B' e' z' v' n' xs') (hne : e ≠ e') : v.ownBlock = none ∨ v.ownBlock ≠ v'.ownBlock := by
  cases hq : v.ownBlock with
  | none => left; rfl
  | some q =>
    right
    intro e0
    obtain ⟨c1, h1⟩ := own_block h hq
    obtain ⟨c2, h2⟩ := own_block h' e0.symm
    rw [h1] at h2
    injection h2 with h2
    injection h2 with _ h3
    exact hne h3

theorem Kb.app1 {w wr : World} {bx : List Value} {v u : Value} {ss : List ByteArray} {zs : List Int} (R : Kb w wr bx v u ss zs) (hn : ss.length ≤ 4194304) (news : List ByteArray) (hp : 0 < news.length) (hnn : news.length ≤ 2) (W : World) (hB : Below wr.heap.size wr W) (hnew : W.heap[wr.heap.size]? = some (.cells (news.map Value.string).toArray 9 (0, 0))) (ty : TypeId) :
    ∃ va vc w', (Builtin.append_ #[22, 22] ty #[v, .slice (some ⟨wr.heap.size, 0, none⟩) news.length news.length]).run Try.prog W = .ok (.slice va (ss ++ news).length vc) w' ∧ Kb w w' bx (.slice va (ss ++ news).length vc) u (ss ++ news) zs := by
  obtain ⟨i0, hi, hz0, hz1, hz2⟩ := info_parts info9
  have hlt : w.heap.size < wr.heap.size := (Array.getElem?_eq_some_iff.1 R.box).1
  have o1 := own_below R.o1 hB
  have o2 := own_below R.o2 hB
  obtain ⟨v', w', hr, ho, hg, _⟩ := run_append_own (P := Try.prog) W (w.heap.size + 1) 22 ty 9 i0 _ 1 16 Try.underlying22 hi hz0 hz1 hz2 rfl (by decide) v ss.length _ o1 ⟨wr.heap.size, 0, none⟩ news.length news.length (news.map Value.string) (by simp) (by
    intro j x hj
    have e : (⟨wr.heap.size, 0, none⟩ : Addr).add j = ⟨wr.heap.size, j, none⟩ := by unfold Addr.add; split <;> simp_all
    rw [e, cell_at hnew]; exact hj) (by intro x hx; simp at hx; obtain ⟨y, _, rfl⟩ := hx; rfl) (by unfold maxLen; omega) (by omega) (by have := hB.size; omega)
  rw [← List.map_append, ← List.length_append] at ho
  obtain ⟨va, vc, rfl⟩ := own_slice_n ho
  have hBW : Below w.heap.size w W := R.bel.trans (hB.mono (by omega))
  refine ⟨va, vc, w', hr, ⟨grown_below hBW hg (fun q hq => by have := (o1.lt q hq).1; omega), ?_, ho, o2.kept hg (own_ne o2 o1 (by decide))⟩⟩
  have hs := hB.size
  rw [hg.block w.heap.size (by omega) (by intro e; have := (o1.lt _ e.symm).1; omega), hB.block _ hlt]
  exact R.box
theorem Kb.app2 {w wr : World} {bx : List Value} {v u : Value} {ss : List ByteArray} {zs : List Int} (R : Kb w wr bx v u ss zs) (hn : zs.length ≤ 4194304) (news : List Int) (hp : 0 < news.length) (hnn : news.length ≤ 2) (W : World) (hB : Below wr.heap.size wr W) (hnew : W.heap[wr.heap.size]? = some (.cells (news.map (Value.int .i64)).toArray 3 (0, 0))) (ty : TypeId) :
    ∃ va vc w', (Builtin.append_ #[43, 43] ty #[u, .slice (some ⟨wr.heap.size, 0, none⟩) news.length news.length]).run Try.prog W = .ok (.slice va (zs ++ news).length vc) w' ∧ Kb w w' bx v (.slice va (zs ++ news).length vc) ss (zs ++ news) := by
  obtain ⟨i0, hi, hz0, hz1, hz2⟩ := info_parts info3
  have hlt : w.heap.size < wr.heap.size := (Array.getElem?_eq_some_iff.1 R.box).1
  have o1 := own_below R.o1 hB
  have o2 := own_below R.o2 hB
  obtain ⟨v', w', hr, ho, hg, _⟩ := run_append_own (P := Try.prog) W (w.heap.size + 1) 43 ty 3 i0 _ 1 8 Try.underlying43 hi hz0 hz1 hz2 rfl (by decide) u zs.length _ o2 ⟨wr.heap.size, 0, none⟩ news.length news.length (news.map (Value.int .i64)) (by simp) (by
    intro j x hj
    have e : (⟨wr.heap.size, 0, none⟩ : Addr).add j = ⟨wr.heap.size, j, none⟩ := by unfold Addr.add; split <;> simp_all
    rw [e, cell_at hnew]; exact hj) (by intro x hx; simp at hx; obtain ⟨y, _, rfl⟩ := hx; rfl) (by unfold maxLen; omega) (by omega) (by have := hB.size; omega)
  rw [← List.map_append, ← List.length_append] at ho
  obtain ⟨va, vc, rfl⟩ := own_slice_n ho
  have hBW : Below w.heap.size w W := R.bel.trans (hB.mono (by omega))
  refine ⟨va, vc, w', hr, ⟨grown_below hBW hg (fun q hq => by have := (o2.lt q hq).1; omega), ?_, o1.kept hg (own_ne o1 o2 (by decide)), ho⟩⟩
  have hs := hB.size
  rw [hg.block w.heap.size (by omega) (by intro e; have := (o2.lt _ e.symm).1; omega), hB.block _ hlt]
  exact R.box

theorem mk_strs0 (c : Nat) (hn : c ≤ 4194304) (w : World) :
    (Instr.makeSlice 22 (.int .i64 0) (.int .i64 c)).run Try.prog w = .ok (.slice (some ⟨w.heap.size, 0, none⟩) 0 c) (w.alloc (.cells (madeCells #[.string ⟨#[]⟩] c) 9)) := by
  obtain ⟨i0, hi, hz0, hz1, hz2⟩ := info_parts info9
  have h := run_make (P := Try.prog) w 22 9 i0 (.string ⟨#[]⟩) Try.underlying22 hi hz0 .i64 .i64 0 c (by omega) (by omega) (by rw [hz2]; omega) (by omega)
  rw [h]
  simp only [Int.toNat_natCast, hz1, Nat.mul_one]
  rfl
theorem mk_ints0 (c : Nat) (hn : c ≤ 4194304) (w : World) :
    (Instr.makeSlice 43 (.int .i64 0) (.int .i64 c)).run Try.prog w = .ok (.slice (some ⟨w.heap.size, 0, none⟩) 0 c) (w.alloc (.cells (madeCells #[.int .i64 0] c) 3)) := by
  obtain ⟨i0, hi, hz0, hz1, hz2⟩ := info_parts info3
  have h := run_make (P := Try.prog) w 43 3 i0 (.int .i64 0) Try.underlying43 hi hz0 .i64 .i64 0 c (by omega) (by omega) (by rw [hz2]; omega) (by omega)
  rw [h]
  simp only [Int.toNat_natCast, hz1, Nat.mul_one]
  rfl
theorem made_len (z : Value) (c : Nat) : (madeCells #[z] c).size = c * 1 := by
  rw [← Array.length_toList, toList_madeCells_one]; simp
theorem kb_start (w : World) (bx : List Value) (c : Nat) (hn : c ≤ 4194304) :
    Kb w (((w.alloc (.cells bx.toArray 59)).alloc (.cells (madeCells #[.string ⟨#[]⟩] c) 9)).alloc (.cells (madeCells #[.int .i64 0] c) 3)) bx (.slice (some ⟨w.heap.size + 1, 0, none⟩) 0 c) (.slice (some ⟨w.heap.size + 2, 0, none⟩) 0 c) [] [] := by
  have s1 : (w.alloc (.cells bx.toArray 59)).heap.size = w.heap.size + 1 := by simp
  have s2 : ((w.alloc (.cells bx.toArray 59)).alloc (.cells (madeCells #[.string ⟨#[]⟩] c) 9)).heap.size = w.heap.size + 2 := by simp
  refine ⟨(((Below.refl _ _).alloc (Nat.le_refl _) _).alloc (by omega) _).alloc (by omega) _, ?_, ?_, ?_⟩
  · rw [Below.heap_alloc _ _ _ (by omega), Below.heap_alloc _ _ _ (by omega)]; exact heap_alloc_new w _
  · have := (World.ownsRow_made (base := w.heap.size + 1) (e := 9) (size := 1) (w.alloc (.cells bx.toArray 59)) (madeCells #[.string ⟨#[]⟩] c) c (by omega) (by unfold maxLen; omega) (made_len _ _)).alloc (.cells (madeCells #[.int .i64 0] c) 3)
    rw [s1] at this; exact this
  · have := World.ownsRow_made (base := w.heap.size + 1) (e := 3) (size := 1) ((w.alloc (.cells bx.toArray 59)).alloc (.cells (madeCells #[.string ⟨#[]⟩] c) 9)) (madeCells #[.int .i64 0] c) c (by omega) (by unfold maxLen; omega) (made_len _ _)
    rw [s2] at this; exact this

/-- the keys. -/
def keyN (wn rn : List ByteArray) : List ByteArray := wn.flatMap (fun n => [n, n]) ++ rn
def keyE (we : List Int) (rn : List ByteArray) (i : Int) : List Int := we.flatMap (fun e => [e, i]) ++ rn.map (fun _ => i)

/-- the arguments that the law's readers are handed, as one value. -/
structure Inp where
  a1 : Option Addr
  a2 : Option Addr
  a3 : Option Addr
  a4 : Option Addr
  a5 : Option Addr
  a6 : Option Addr
  c1 : Nat
  c2 : Nat
  c3 : Nat
  c4 : Nat
  c5 : Nat
  c6 : Nat
  rn : List ByteArray
  ra : List Int
  wn : List ByteArray
  we : List Int
  wb : List Bool
  wa : List Int
  i : Int
  p : Int
def Inp.cells (x : Inp) : List Value := [.slice x.a1 x.rn.length x.c1, .slice x.a2 x.ra.length x.c2, .slice x.a3 x.wn.length x.c3, .slice x.a4 x.we.length x.c4, .slice x.a5 x.wb.length x.c5, .slice x.a6 x.wa.length x.c6, .int .i64 x.i, .int .i64 x.p]
structure InpOk (w : World) (x : Inp) : Prop where
  d1 : Dat Value.string w x.a1 x.rn
  d2 : Dat (Value.int .i64) w x.a2 x.ra
  d3 : Dat Value.string w x.a3 x.wn
  d4 : Dat (Value.int .i64) w x.a4 x.we
  d5 : Dat Value.bool w x.a5 x.wb
  d6 : Dat (Value.int .i64) w x.a6 x.wa
  l2 : x.rn.length = x.ra.length
  l4 : x.we.length = x.wn.length
  l5 : x.wb.length = x.wn.length
  l6 : x.wa.length = x.wn.length
  n1 : x.rn.length ≤ 131072
  n3 : x.wn.length ≤ 131072
theorem InpOk.below {w w' : World} {x : Inp} (h : InpOk w x) (hb : Below w.heap.size w w') : InpOk w' x :=
  ⟨h.d1.below hb, h.d2.below hb, h.d3.below hb, h.d4.below hb, h.d5.below hb, h.d6.below hb, h.l2, h.l4, h.l5, h.l6, h.n1, h.n3⟩

theorem own_dat {α : Type} {enc : α → Value} {w : World} {B : Nat} {e : TypeId} {va : Option Addr} {n vc : Nat} {ds : List α} (h : w.ownsRow B e 1 (.slice va n vc) n (ds.map enc)) : Dat enc w va ds := by
  refine ⟨fun hp => ?_⟩
  have hl : ds.length = n := by have := h.1; simpa using this
  rcases h.2 with ⟨hv, h0⟩ | ⟨g, cap, cur, hv, hbg, hg, r⟩
  · omega
  · injection hv with hv1 hv2 hv3
    subst hv1
    refine ⟨g, 0, rfl, (Array.getElem?_eq_some_iff.1 hg).1, fun i hi => ?_⟩
    have := h.cells (g := g) rfl i (enc ds[i]) (by simp [hi])
    have e : (⟨g, 0, none⟩ : Addr).add i = ⟨g, i, none⟩ := by unfold Addr.add; split <;> simp_all
    rw [e] at this
    rw [Nat.zero_add]; exact this

def KeysPost (x : Inp) (w : World) (e : Ending) (w' : World) : Prop :=
  ∃ va vc ua uc, e = .returned (.tuple #[.slice va (keyN x.wn x.rn).length vc, .slice ua (keyE x.we x.rn x.i).length uc]) ∧ Dat Value.string w' va (keyN x.wn x.rn) ∧ Dat (Value.int .i64) w' ua (keyE x.we x.rn x.i) ∧ Below w.heap.size w w'

theorem kn_snoc (wn : List ByteArray) (k : Nat) (h : k < wn.length) : (wn.take (k + 1)).flatMap (fun n => [n, n]) = (wn.take k).flatMap (fun n => [n, n]) ++ [wn[k], wn[k]] := by
  rw [List.take_succ_eq_append_getElem h, List.flatMap_append]; rfl
theorem ke_snoc (we : List Int) (i : Int) (k : Nat) (h : k < we.length) : (we.take (k + 1)).flatMap (fun e => [e, i]) = (we.take k).flatMap (fun e => [e, i]) ++ [we[k], i] := by
  rw [List.take_succ_eq_append_getElem h, List.flatMap_append]; rfl
theorem kn_len {α : Type} (g : α → List α) (hg : ∀ a, (g a).length = 2) (l : List α) : (l.flatMap g).length = 2 * l.length := by
  induction l with
  | nil => rfl
  | cons a t ih => simp only [List.flatMap_cons, List.length_append, hg, ih, List.length_cons]; omega

set_option maxHeartbeats 4000000 in
set_option maxRecDepth 100000 in
theorem keys_any (x : Inp) (w : World) (hx : InpOk w x) : Calls Try.prog 43 #[.agg x.cells.toArray] w fun e w' => KeysPost x w e w' := by
  have n1 := hx.n1
  have n3 := hx.n3
  have m1 := mk_strs0 (2 * x.wn.length + x.rn.length) (by omega)
  have m2 := mk_ints0 (2 * x.wn.length + x.rn.length) (by omega)
  have HS : Hid _ := kb_start w x.cells (2 * x.wn.length + x.rn.length) (by omega)
  have ec : ((2 * x.wn.length + x.rn.length : Nat) : Int) = 2 * (x.wn.length : Int) + x.rn.length := by omega
  rw [ec] at m1 m2
  clear ec
  unfold Inp.cells
  go_enter Try.func43, Try.ntmps43
  go_wp2
  go_loopw [4, 5, 6] (fun v u j wr => ∃ (k : Nat) (va : Option Addr) (vc : Nat) (ua : Option Addr) (uc : Nat), k ≤ x.wn.length ∧ j = .int .i64 k ∧ v = .slice va (2 * k) vc ∧ u = .slice ua (2 * k) uc ∧ Kb w wr x.cells (.slice va (2 * k) vc) (.slice ua (2 * k) uc) ((x.wn.take k).flatMap (fun n => [n, n])) ((x.we.take k).flatMap (fun e => [e, x.i]))) (fun _ _ j _ => x.wn.length - (intOf j).toNat)
  case atStart => exact ⟨0, _, _, _, _, Nat.zero_le _, rfl, rfl, rfl, HS.out⟩
  case round =>
    obtain ⟨k, va, vc, ua, uc, hk, rfl, rfl, rfl, R⟩ := hrel
    clear HS m1 m2
    have hl4 := hx.l4
    have HL4 : Hid _ := hl4
    clear hl4
    have hwr : w.heap.size < wr.heap.size := (Array.getElem?_eq_some_iff.1 R.box).1
    have b0 := cell_at R.box 0
    have b2 := cell_at R.box 2
    have b3 := cell_at R.box 3
    have b6 := cell_at R.box 6
    simp only [Inp.cells, List.getElem?_cons_succ, List.getElem?_cons_zero] at b0 b2 b3 b6
    by_cases hlt : k < x.wn.length
    · have hlt4 : k < x.we.length := by have := HL4.out; omega
      obtain ⟨g3, o3, ea3, hg3, hc3⟩ := hx.d3.at0 (by omega)
      obtain ⟨g4, o4, ea4, hg4, hc4⟩ := hx.d4.at0 (by omega)
      rw [ea3] at b2
      rw [ea4] at b3
      have e3 := (R.bel.cell (p := ⟨g3, o3 + k, none⟩) hg3).trans (hc3 k hlt)
      have l1 : ((x.wn.take k).flatMap (fun n => [n, n])).length = 2 * k := by rw [kn_len _ (fun _ => rfl)]; simp; omega
      have l2 : ((x.we.take k).flatMap (fun e => [e, x.i])).length = 2 * k := by rw [kn_len _ (fun _ => rfl)]; simp; omega
      obtain ⟨va', vc', w1, hr1, R1⟩ := R.app1 (by omega) [x.wn[k], x.wn[k]] (by simp) (by simp) (wr.alloc (.cells #[.string x.wn[k], .string x.wn[k]] 9)).drew (bel_ad wr _) (heap_alloc_new wr _) 22
      have m1 : ((x.wn.take k).flatMap (fun n => [n, n]) ++ [x.wn[k], x.wn[k]]).length = 2 * k + 2 := by rw [List.length_append, l1]; rfl
      rw [m1] at hr1 R1
      obtain ⟨ua', uc', w2, hr2, R2⟩ := R1.app2 (by omega) [x.we[k], x.i] (by simp) (by simp) (w1.alloc (.cells #[.int .i64 x.we[k], .int .i64 x.i] 3)).drew (bel_ad w1 _) (heap_alloc_new w1 _) 43
      have m2 : ((x.we.take k).flatMap (fun e => [e, x.i]) ++ [x.we[k], x.i]).length = 2 * k + 2 := by rw [List.length_append, l2]; rfl
      rw [m2] at hr2 R2
      rw [← kn_snoc x.wn k hlt, ← ke_snoc x.we x.i k hlt4] at R2
      simp only [List.length_cons, List.length_nil, Nat.zero_add, Nat.reduceAdd] at hr1 hr2
      have e4 := (R1.bel.cell (p := ⟨g4, o4 + k, none⟩) hg4).trans (hc4 k hlt4)
      have b2' := cell_at R1.box 2
      have b3' := cell_at R1.box 3
      have b6' := cell_at R1.box 6
      simp only [Inp.cells, List.getElem?_cons_succ, List.getElem?_cons_zero] at b2' b3' b6'
      rw [ea3] at b2'
      rw [ea4] at b3'
      have hki : (k : Int) < (x.wn.length : Int) := by omega
      have hki4 : (k : Int) < (x.we.length : Int) := by omega
      have hw1 : w.heap.size < w1.heap.size := (Array.getElem?_eq_some_iff.1 R1.box).1
      have g3r : g3 < wr.heap.size := by omega
      have g4r : g4 < w1.heap.size := by omega
      have HR : Hid (Kb w w2 x.cells (.slice va' (2 * (k + 1)) vc') (.slice ua' (2 * (k + 1)) uc') ((x.wn.take (k + 1)).flatMap (fun n => [n, n])) ((x.we.take (k + 1)).flatMap (fun e => [e, x.i]))) := R2
      clear hc3 hc4 R R1 R2 l1 l2 m1 m2 ea3 ea4
      go_wp2
      go_region_law (refine step_app rfl (.tmp 33) (.tmp 44) 22 rfl _ _ _ _ rfl rfl hr1 ?_)
      all_goals
        go_wp2
        go_region_law (refine step_app rfl (.tmp 46) (.tmp 54) 43 rfl _ _ _ _ rfl rfl hr2 ?_)
        all_goals
          go_wp2
          go_roundw
          case rel => exact ⟨k + 1, _, _, _, _, by omega, by go_num, rfl, rfl, HR.out⟩
          case measure => simp [intOf]; omega
    · obtain rfl : k = x.wn.length := by omega
      rw [List.take_of_length_le (Nat.le_refl _), List.take_of_length_le (by have := HL4.out; omega)] at R
      go_wp2
      go_loopw [4, 5, 7] (fun v u j wr => ∃ (q : Nat) (va : Option Addr) (vc : Nat) (ua : Option Addr) (uc : Nat), q ≤ x.rn.length ∧ j = .int .i64 q ∧ v = .slice va (2 * x.wn.length + q) vc ∧ u = .slice ua (2 * x.wn.length + q) uc ∧ Kb w wr x.cells (.slice va (2 * x.wn.length + q) vc) (.slice ua (2 * x.wn.length + q) uc) (keyN x.wn (x.rn.take q)) (keyE x.we (x.rn.take q) x.i)) (fun _ _ j _ => x.rn.length - (intOf j).toNat)
      case atStart => exact ⟨0, _, _, _, _, Nat.zero_le _, rfl, rfl, rfl, by simpa [keyN, keyE] using R⟩
      case round =>
        clear R b0 b2 b3 b6 hwr
        obtain ⟨q, va, vc, ua, uc, hq, rfl, rfl, rfl, R⟩ := hrel
        have hwr : w.heap.size < wr.heap.size := (Array.getElem?_eq_some_iff.1 R.box).1
        have b0 := cell_at R.box 0
        have b6 := cell_at R.box 6
        simp only [Inp.cells, List.getElem?_cons_succ, List.getElem?_cons_zero] at b0 b6
        by_cases hql : q < x.rn.length
        · obtain ⟨g1, o1, ea1, hg1, hc1⟩ := hx.d1.at0 (by omega)
          rw [ea1] at b0
          have e1 := (R.bel.cell (p := ⟨g1, o1 + q, none⟩) hg1).trans (hc1 q hql)
          have l1 : (keyN x.wn (x.rn.take q)).length = 2 * x.wn.length + q := by rw [keyN, List.length_append, kn_len _ (fun _ => rfl)]; simp; omega
          have l2 : (keyE x.we (x.rn.take q) x.i).length = 2 * x.wn.length + q := by rw [keyE, List.length_append, kn_len _ (fun _ => rfl)]; have := HL4.out; simp; omega
          obtain ⟨va', vc', w1, hr1, R1⟩ := R.app1 (by omega) [x.rn[q]] (by simp) (by simp) (wr.alloc (.cells #[.string x.rn[q]] 9)) ((Below.refl _ _).alloc (Nat.le_refl _) _) (heap_alloc_new wr _) 22
          have m1 : (keyN x.wn (x.rn.take q) ++ [x.rn[q]]).length = 2 * x.wn.length + q + 1 := by rw [List.length_append, l1]; rfl
          rw [m1] at hr1 R1
          obtain ⟨ua', uc', w2, hr2, R2⟩ := R1.app2 (by omega) [x.i] (by simp) (by simp) (w1.alloc (.cells #[.int .i64 x.i] 3)) ((Below.refl _ _).alloc (Nat.le_refl _) _) (heap_alloc_new w1 _) 43
          have m2 : (keyE x.we (x.rn.take q) x.i ++ [x.i]).length = 2 * x.wn.length + q + 1 := by rw [List.length_append, l2]; rfl
          rw [m2] at hr2 R2
          have r1 : keyN x.wn (x.rn.take q) ++ [x.rn[q]] = keyN x.wn (x.rn.take (q + 1)) := by unfold keyN; rw [List.take_succ_eq_append_getElem hql, List.append_assoc]
          have r2 : keyE x.we (x.rn.take q) x.i ++ [x.i] = keyE x.we (x.rn.take (q + 1)) x.i := by unfold keyE; rw [List.take_succ_eq_append_getElem hql, List.append_assoc, List.map_append]; rfl
          rw [r1, r2] at R2
          simp only [List.length_cons, List.length_nil, Nat.zero_add] at hr1 hr2
          have b6' := cell_at R1.box 6
          simp only [Inp.cells, List.getElem?_cons_succ, List.getElem?_cons_zero] at b6'
          have hqi : (q : Int) < (x.rn.length : Int) := by omega
          have hw1 : w.heap.size < w1.heap.size := (Array.getElem?_eq_some_iff.1 R1.box).1
          have g1r : g1 < wr.heap.size := by omega
          have HR : Hid (Kb w w2 x.cells (.slice va' (2 * x.wn.length + (q + 1)) vc') (.slice ua' (2 * x.wn.length + (q + 1)) uc') (keyN x.wn (x.rn.take (q + 1))) (keyE x.we (x.rn.take (q + 1)) x.i)) := R2
          clear hc1 R R1 R2 l1 l2 m1 m2 r1 r2 ea1
          go_wp2_with (first | (at_builtin; refine wpList_app rfl (.tmp 63) (.tmp 69) 22 rfl _ _ _ _ rfl rfl hr1 ?_) | (at_builtin; refine wpList_app rfl (.tmp 71) (.tmp 74) 43 rfl _ _ _ _ rfl rfl hr2 ?_))
          go_roundw
          case rel => exact ⟨q + 1, _, _, _, _, by omega, by go_num, rfl, rfl, HR.out⟩
          case measure => simp [intOf]; omega
        · obtain rfl : q = x.rn.length := by omega
          rw [List.take_of_length_le (Nat.le_refl _)] at R
          have HP : Hid (KeysPost x w (.returned (.tuple #[.slice va (2 * x.wn.length + x.rn.length) vc, .slice ua (2 * x.wn.length + x.rn.length) uc])) wr) := by
            have l1 : (keyN x.wn x.rn).length = 2 * x.wn.length + x.rn.length := by rw [keyN, List.length_append, kn_len _ (fun _ => rfl)]
            have l2 : (keyE x.we x.rn x.i).length = 2 * x.wn.length + x.rn.length := by rw [keyE, List.length_append, kn_len _ (fun _ => rfl)]; have := HL4.out; simp; omega
            refine ⟨va, vc, ua, uc, by rw [l1, l2], ?_, ?_, R.bel⟩
            · have := R.o1; rw [l1] at this; exact own_dat this
            · have := R.o2; rw [l2] at this; exact own_dat this
          clear R
          go_wp2
          go_ret2
          exact HP.out
end Go.Proofs.Qxb6602244a
