/-
  ZZNewAttemptB1 (12), where 'unless' is nil.
-/
import Derived.Test.Qxb6602244aNew
import Derived.Laws.Cover3
namespace Go.Proofs.Qxb6602244a
open Go.ChangeShapes Go.WideShapes Go.ChangeAt Go.RowKit
set_option linter.unusedVariables false
set_option linter.unusedSimpArgs false

theorem neq23 (w : World) (a : Option Addr) (l c : Nat) : (binOp .neq 23 (.slice a l c) (.slice none 0 0)).run Try.prog w = .ok (.bool (!a.isNone)) w := run_neq_slice_nil w 23 22 a l c Try.underlying23

/-- an append whose run is known. -/
theorem wpList_app {w : World} {ops : Array Oper} {rest : List Oper} {o : Oper} {a : Act} {Q : Exit → Act → World → Prop} (hgd : o.guard = none) (s x : Operand) (t : TypeId)
    (ho : o.op = .call { callee := .builtin .append, args := #[s, x], argTypes := #[t, t] }) (v u v' : Value) (w' : World) (hs : a.eval s = v) (hx : a.eval x = u)
    (hr : (Builtin.append_ #[t, t] o.type #[v, u]).run Try.prog w = .ok v' w') (h : wpList Try.prog ops Q rest (a.put o.dst v') w') : wpList Try.prog ops Q (o :: rest) a w :=
  wpList_plain hgd fun _ hK => by
    unfold Oper.wp execOp
    simp only [ho, resolve, invoke, builtin, Sem.run_bind, Sem.run_pure, Result.andThen_ok, List.map_toArray, List.map_cons, List.map_nil, hs, hx, hr]
    exact hK _ _ h

/-- 'a.needs = append(a.needs, &unsafeVar{..})'. -/
theorem app_need {W : World} {B : Nat} {v : Value} {n : Nat} {xs : List Value} {a ad : Addr} (ty : TypeId) (hown : W.ownsRow B 72 1 v n xs)
    (hc : W.cell? ad = some (.pointer (some a))) (hsp : ad.spot = none) (hn : n ≤ 4194304) (hB : B ≤ W.heap.size) :
    ∃ v' w', (Builtin.append_ #[67, 67] ty #[v, .slice (some ad) 1 1]).run Try.prog W = .ok v' w' ∧ w'.ownsRow B 72 1 v' (n + 1) (xs ++ [.pointer (some a)]) ∧ W.grownBy w' v.ownBlock := by
  obtain ⟨i0, hi, hz0, hz1, hz2⟩ := info_parts info72
  obtain ⟨v', w', hr, ho, hg, hnil⟩ := run_append_own (P := Try.prog) W B 67 ty 72 i0 _ 1 8 Try.underlying67 hi hz0 hz1 hz2 rfl (by decide) v n xs hown ad 1 1 [.pointer (some a)] rfl (by
    intro j u hj
    cases j with
    | zero => simp at hj; subst hj; rw [← hc]; congr 1
    | succ j => simp at hj) (by intro u hu; simp at hu; subst hu; rfl) (by unfold maxLen; omega) (by omega) hB
  exact ⟨v', w', hr, ho, hg⟩

/-- while the needs are laid: the attempt in block ab. -/
structure Nd (w wr : World) (v : Value) (n : Nat) : Prop where
  bel : Below w.heap.size w wr
  hb : wr.heap[w.heap.size]? = some (.cells #[v, .slice none 0 0, .slice none 0 0, .int .i64 0, .int .i64 0] 71 (0, 0))
  own : ∃ xs, wr.ownsRow w.heap.size 72 1 v n xs

theorem own_slice_n {w : World} {B : Nat} {e : TypeId} {z : Nat} {v : Value} {n : Nat} {xs : List Value} (h : w.ownsRow B e z v n xs) : ∃ a c, v = .slice a n c := by
  rcases h.2 with ⟨rfl, rfl⟩ | ⟨g, cap, cur, rfl, _⟩
  · exact ⟨none, 0, rfl⟩
  · exact ⟨_, _, rfl⟩
theorem Nd.start (w : World) : Nd w (w.alloc (.cells #[.slice none 0 0, .slice none 0 0, .slice none 0 0, .int .i64 0, .int .i64 0] 71)) (.slice none 0 0) 0 :=
  ⟨(Below.refl _ _).alloc (Nat.le_refl _) _, heap_alloc_new w _, [], World.ownsRow_nil _ _ _ _⟩

theorem Nd.step {w wr : World} {v : Value} {n : Nat} (R : Nd w wr v n) (hn : n ≤ 4194304) (o : Obj) (ty : TypeId) :
    ∃ va vc w', (Builtin.append_ #[67, 67] ty #[v, .slice (some ⟨wr.heap.size + 1, 0, none⟩) 1 1]).run Try.prog ((wr.alloc o).alloc (.cells #[.pointer (some ⟨wr.heap.size, 0, none⟩)] 72)) = .ok (.slice va (n + 1) vc) w' ∧
      (∃ c0, w'.cell? ⟨w.heap.size, 0, none⟩ = some c0) ∧ w'.frozen? ⟨w.heap.size, 0, none⟩ = false ∧ Nd w (w'.setCell ⟨w.heap.size, 0, none⟩ (.slice va (n + 1) vc)) (.slice va (n + 1) vc) (n + 1) := by
  obtain ⟨xs, hown⟩ := R.own
  have hlt : w.heap.size < wr.heap.size := (Array.getElem?_eq_some_iff.1 R.hb).1
  have hs2 : ((wr.alloc o).alloc (.cells #[.pointer (some ⟨wr.heap.size, 0, none⟩)] 72)).heap.size = wr.heap.size + 2 := by simp
  have hnew : ((wr.alloc o).alloc (.cells #[.pointer (some ⟨wr.heap.size, 0, none⟩)] 72)).heap[wr.heap.size + 1]? = some (.cells #[.pointer (some ⟨wr.heap.size, 0, none⟩)] 72 (0, 0)) := heap_alloc_at _ _ _ (by simp)
  have hbel : Below w.heap.size w ((wr.alloc o).alloc (.cells #[.pointer (some ⟨wr.heap.size, 0, none⟩)] 72)) := (R.bel.alloc (by omega) _).alloc (by simp; omega) _
  have hbk : ((wr.alloc o).alloc (.cells #[.pointer (some ⟨wr.heap.size, 0, none⟩)] 72)).heap[w.heap.size]? = some (.cells #[v, .slice none 0 0, .slice none 0 0, .int .i64 0, .int .i64 0] 71 (0, 0)) := by
    rw [Below.heap_alloc _ _ _ (by simp; omega), Below.heap_alloc _ _ _ hlt]; exact R.hb
  obtain ⟨v', w', hr, ho, hg⟩ := app_need (a := ⟨wr.heap.size, 0, none⟩) (ad := ⟨wr.heap.size + 1, 0, none⟩) ty ((hown.alloc o).alloc (.cells #[.pointer (some ⟨wr.heap.size, 0, none⟩)] 72)) (cell_at (cs := [_]) hnew 0) rfl hn (by omega)
  obtain ⟨va, vc, rfl⟩ := own_slice_n ho
  have hne : some w.heap.size ≠ v.ownBlock := by
    intro e
    obtain ⟨cur, hc⟩ := own_block hown e.symm
    rw [R.hb] at hc; simp at hc
  have hb1 : w'.heap[w.heap.size]? = some (.cells #[v, .slice none 0 0, .slice none 0 0, .int .i64 0, .int .i64 0] 71 (0, 0)) := by
    rw [hg.block w.heap.size (by omega) hne]; exact hbk
  have hbel' : Below w.heap.size w w' := by
    refine ⟨hg.os.trans hbel.os, hg.tape.trans hbel.tape, hg.output.trans hbel.output, Nat.le_trans hbel.size hg.size, fun k hk => ?_⟩
    rw [hg.block k (by omega) (by intro e; have := (hown.lt k e.symm).1; omega)]
    exact hbel.block k hk
  refine ⟨va, vc, w', hr, ⟨v, cell_at (cs := [_, _, _, _, _]) hb1 0⟩, free_at hb1 0, ⟨hbel'.setCell (Nat.le_refl _) _, ?_, xs ++ [.pointer (some ⟨wr.heap.size, 0, none⟩)], ho.1, ?_⟩⟩
  · rw [heap_setCell_same w' w.heap.size 0 _ 71 _ hb1]; rfl
  · rcases ho.2 with h2 | ⟨g, cap, cur, hv, hbg, hgg, r⟩
    · exact .inl h2
    · refine .inr ⟨g, cap, cur, hv, hbg, ?_, r⟩
      rw [heap_setCell_other w' ⟨w.heap.size, 0, none⟩ g _ (by intro e; change g = w.heap.size at e; rw [e, hb1] at hgg; simp at hgg)]
      exact hgg

/-- WHAT ZZNewAttemptB1 LEAVES. -/
def AttPost (nn : Nat) (rs : List (ByteArray × Int)) (w : World) (e : Ending) (w' : World) : Prop :=
  ∃ ab B rb, e = .returned (.pointer (some ⟨ab, 0, none⟩)) ∧ w.heap.size ≤ ab ∧ Att w' B ab nn rs rb ∧ Below w.heap.size w w'

set_option maxHeartbeats 4000000 in
set_option maxRecDepth 100000 in
theorem newAtt_any (a0 a2 a3 : Option Addr) (c0 c2 c3 : Nat) (ns rn : List ByteArray) (ra : List Int) (w : World) (d0 : Dat Value.string w a0 ns) (d2 : Dat Value.string w a2 rn) (d3 : Dat (Value.int .i64) w a3 ra)
    (hn : ns.length ≤ 1048576) (hl : rn.length = ra.length) (hr : rn.length ≤ 1048576) :
    Calls Try.prog 12 #[.slice a0 ns.length c0, .slice none 0 0, .slice a2 rn.length c2, .slice a3 ra.length c3] w fun e w' => AttPost ns.length (rn.zip ra) w e w' := by
  have HL : Hid (rn.length = ra.length) := hl
  have q23 := neq23
  have HS : Hid _ := Nd.start w
  clear hl
  go_enter Try.func12, Try.ntmps12
  go_wp2
  go_loopw [21] (fun i wr => ∃ (k : Nat) (va : Option Addr) (vc : Nat), k ≤ ns.length ∧ i = .int .i64 k ∧ Nd w wr (.slice va k vc) k) (fun i _ => ns.length - (intOf i).toNat)
  case atStart => exact ⟨0, none, 0, Nat.zero_le _, rfl, HS.out⟩
  case round =>
    obtain ⟨k, va, vc, hk, rfl, R⟩ := hrel
    clear HS
    have hbs := (Array.getElem?_eq_some_iff.1 R.hb).1
    by_cases hlt : k < ns.length
    · obtain ⟨b0, o0, rfl, hb0, hc0⟩ := d0.at0 (by omega)
      have e0 := (R.bel.cell (p := ⟨b0, o0 + k, none⟩) hb0).trans (hc0 k hlt)
      have k0 := cell_at (cs := [_, _, _, _, _]) R.hb 0
      simp only [List.getElem?_cons_zero] at k0
      have hki : (k : Int) < (ns.length : Int) := by omega
      obtain ⟨va', vc', w', hap, ⟨c0', kc⟩, kf, R2⟩ := R.step (by omega) (.cells #[.pointer none, .string ns[k]] 75) 67
      have HR : Hid _ := R2
      clear hc0 R2 R
      go_wp2_with (at_builtin; refine wpList_app rfl (.tmp 29) (.tmp 33) 67 rfl _ _ _ _ rfl rfl hap ?_)
      go_roundw
      case rel => exact ⟨k + 1, _, _, by omega, by go_num, HR.out⟩
      case measure => simp [intOf]; omega
    · have hL : Below w.heap.size w wr := R.bel
      have hb := R.hb
      obtain rfl : k = ns.length := by omega
      clear R
      go_wp2_with fail
      refine (setReads_any w w.heap.size ns.length _ _ _ _ _ _ a2 a3 rn ra c2 c3 wr hb hL (Nat.le_refl _) d2 d3 HL.out hr).mono ?_
      rintro e w3 ⟨rfl, rb, hA, hC⟩
      have HP : Hid (AttPost ns.length (rn.zip ra) w (.returned (.pointer (some ⟨w.heap.size, 0, none⟩))) w3) := ⟨_, _, rb, rfl, Nat.le_refl _, hA, hC.below hL (Nat.le_refl _) (by simp)⟩
      clear hA hC hb
      go_wp2
      go_ret
      exact HP.out
end Go.Proofs.Qxb6602244a
