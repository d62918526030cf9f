/-
  ZZNewScopeB1 (13).
-/
import Derived.Test.Qxb6602244aScope
import Derived.Laws.MakeOwn
namespace Go.Proofs.Qxb6602244a
open Go.ChangeShapes Go.WideShapes Go.ChangeAt Go.RowKit
open ChangeMaps (setBlock)
set_option linter.unusedVariables false

/-- while the scope is filled: N = w.heap.size: the locals' map N, the declared names' N + 1, the watchers' N + 2, the scope N + 3. -/
structure Ns (w wr : World) (ov wk : Value) (ns : List ByteArray) (bs : List Bool) (dn : List ByteArray) : Prop where
  bel : Below w.heap.size w wr
  big : w.heap.size + 4 ≤ wr.heap.size
  sc : wr.heap[w.heap.size + 3]? = some (.cells (scCells ov w.heap.size (w.heap.size + 2) (w.heap.size + 1) wk) 87 (0, 0))
  vars : VarsOk wr w.heap.size ns bs
  decs : DecOk wr (w.heap.size + 1) dn
  wat : MapIs Value.string wr (w.heap.size + 2) []

theorem heap_alloc_at (w : World) (o : Obj) (k : Nat) (h : k = w.heap.size) : (w.alloc o).heap[k]? = some o := by subst h; exact heap_alloc_new w o
theorem mapIs_new {K : Type} (enc : K → Value) {w : World} {r c : Nat} (h : w.heap[r]? = some (.map #[] c)) : MapIs enc w r [] := ⟨#[], c, h, rfl⟩

theorem ns_start (w : World) (ov : Value) : Ns w ((((w.alloc (.map #[] 0)).alloc (.map #[] 0)).alloc (.map #[] 0)).alloc (.cells (scCells ov w.heap.size (w.heap.size + 2) (w.heap.size + 1) (.pointer none)) 87)) ov (.pointer none) [] [] [] := by
  have s1 : (w.alloc (.map #[] 0)).heap.size = w.heap.size + 1 := by simp
  have s2 : ((w.alloc (.map #[] 0)).alloc (.map #[] 0)).heap.size = w.heap.size + 2 := by simp
  have s3 : (((w.alloc (.map #[] 0)).alloc (.map #[] 0)).alloc (.map #[] 0)).heap.size = w.heap.size + 3 := by simp
  have m0 : ((((w.alloc (.map #[] 0)).alloc (.map #[] 0)).alloc (.map #[] 0)).alloc (.cells (scCells ov w.heap.size (w.heap.size + 2) (w.heap.size + 1) (.pointer none)) 87)).heap[w.heap.size]? = some (.map #[] 0) := by
    rw [Below.heap_alloc _ _ _ (by omega), Below.heap_alloc _ _ _ (by omega), Below.heap_alloc _ _ _ (by omega)]; exact heap_alloc_new w _
  have m1 : ((((w.alloc (.map #[] 0)).alloc (.map #[] 0)).alloc (.map #[] 0)).alloc (.cells (scCells ov w.heap.size (w.heap.size + 2) (w.heap.size + 1) (.pointer none)) 87)).heap[w.heap.size + 1]? = some (.map #[] 0) := by
    rw [Below.heap_alloc _ _ _ (by omega), Below.heap_alloc _ _ _ (by omega)]; exact heap_alloc_at _ _ _ s1.symm
  have m2 : ((((w.alloc (.map #[] 0)).alloc (.map #[] 0)).alloc (.map #[] 0)).alloc (.cells (scCells ov w.heap.size (w.heap.size + 2) (w.heap.size + 1) (.pointer none)) 87)).heap[w.heap.size + 2]? = some (.map #[] 0) := by
    rw [Below.heap_alloc _ _ _ (by omega)]; exact heap_alloc_at _ _ _ s2.symm
  refine ⟨?_, by simp, heap_alloc_at _ _ _ s3.symm, ⟨[], mapIs_new _ m0, fun x => ⟨fun _ => rfl, fun h => by simp [has] at h⟩⟩, ⟨[], mapIs_new _ m1, fun x => by simp [has, get]⟩, mapIs_new _ m2⟩
  exact ((((Below.refl _ _).alloc (Nat.le_refl _) _).alloc (by omega) _).alloc (by omega) _).alloc (by omega) _

/-- one local more. -/
theorem ns_var {w wr : World} {ov wk : Value} {ns : List ByteArray} {bs : List Bool} {dn : List ByteArray} (R : Ns w wr ov wk ns bs dn) (hl : ns.length = bs.length) (n : ByteArray) (b : Bool) (sl : Value) :
    ∃ es c, (Instr.mapUpdate 82 (.map (some w.heap.size)) (.string n) (.pointer (some ⟨wr.heap.size, 0, none⟩))).run Try.prog (wr.alloc (.cells #[sl, .bool b, .bool false] 89)).drew =
        .ok () (setBlock (wr.alloc (.cells #[sl, .bool b, .bool false] 89)).drew w.heap.size (.map es c)) ∧
      Ns w (setBlock (wr.alloc (.cells #[sl, .bool b, .bool false] 89)).drew w.heap.size (.map es c)) ov wk (ns ++ [n]) (bs ++ [b]) dn := by
  obtain ⟨V, hm, hx⟩ := R.vars
  have hbig := R.big
  have k0 : Keeps wr (wr.alloc (.cells #[sl, .bool b, .bool false] 89)).drew := fun k o hk _ => by
    show (wr.alloc _).heap[k]? = _
    rw [Below.heap_alloc wr _ k (Array.getElem?_eq_some_iff.1 hk).1]; exact hk
  have hnew : (wr.alloc (.cells #[sl, .bool b, .bool false] 89)).drew.heap[wr.heap.size]? = some (.cells #[sl, .bool b, .bool false] 89 (0, 0)) := heap_alloc_new wr _
  have hm1 := hm.keep k0
  obtain ⟨es, c, hrun, he⟩ := store_map (keys_string Try.underlying9) Try.underlying82 hm1 n (.pointer (some ⟨wr.heap.size, 0, none⟩))
  have hbel : Below w.heap.size w (wr.alloc (.cells #[sl, .bool b, .bool false] 89)).drew := (R.bel.alloc (by omega) _).drew
  have hd := R.decs.keep k0
  have hw := R.wat.keep k0
  have hsc := k0 _ _ R.sc rfl
  refine ⟨es, c, hrun, ⟨below_setBlock hbel (Nat.le_refl _), ?_, ?_, ?_, ?_, ?_⟩⟩
  · rw [setBlock_size]; show _ ≤ (wr.alloc _).heap.size; simp; omega
  · rw [setBlock_other (by omega)]; exact hsc
  · refine vars_step hl hm1 (fun x => ⟨(hx x).1, fun h1 => ?_⟩) (by omega) hnew he
    obtain ⟨l2, s2, h2, h3⟩ := (hx x).2 h1
    exact ⟨l2, s2, h2, k0 _ _ h3 rfl⟩
  · obtain ⟨D, ⟨e2, c2, h2, h3⟩, h4⟩ := hd
    exact ⟨D, ⟨e2, c2, by rw [setBlock_other (by omega)]; exact h2, h3⟩, h4⟩
  · obtain ⟨e2, c2, h2, h3⟩ := hw
    exact ⟨e2, c2, by rw [setBlock_other (by omega)]; exact h2, h3⟩

/-- one declared name more. -/
theorem ns_dec {w wr : World} {ov wk : Value} {ns : List ByteArray} {bs : List Bool} {dn : List ByteArray} (R : Ns w wr ov wk ns bs dn) (n : ByteArray) :
    ∃ es c, (Instr.mapUpdate 83 (.map (some (w.heap.size + 1))) (.string n) (.bool true)).run Try.prog wr = .ok () (setBlock wr (w.heap.size + 1) (.map es c)) ∧
      Ns w (setBlock wr (w.heap.size + 1) (.map es c)) ov wk ns bs (dn ++ [n]) := by
  obtain ⟨D, hm, hx⟩ := R.decs
  have hbig := R.big
  obtain ⟨es, c, hrun, he⟩ := store_map (keys_string Try.underlying9) Try.underlying83 hm n (.bool true)
  refine ⟨es, c, hrun, ⟨below_setBlock R.bel (by omega), by rw [setBlock_size]; exact hbig, ?_, ?_, ?_, ?_⟩⟩
  · rw [setBlock_other (by omega)]; exact R.sc
  · obtain ⟨V, ⟨e2, c2, h2, h3⟩, h4⟩ := R.vars
    refine ⟨V, ⟨e2, c2, by rw [setBlock_other (by omega)]; exact h2, h3⟩, fun x => ⟨(h4 x).1, fun h1 => ?_⟩⟩
    obtain ⟨l2, s2, h5, h6⟩ := (h4 x).2 h1
    refine ⟨l2, s2, h5, ?_⟩
    obtain ⟨e3, c3, h7, _⟩ := hm
    rw [setBlock_other (by intro e; rw [e, h7] at h6; simp at h6)]; exact h6
  · obtain ⟨e3, c3, h7, _⟩ := hm
    refine ⟨upd D n (.bool true), ⟨es, c, setBlock_same h7, he⟩, fun x => ?_⟩
    rw [get_upd, hx, has_snoc]
    by_cases hn : n = x <;> simp [hn]
  · obtain ⟨e2, c2, h2, h3⟩ := R.wat
    exact ⟨e2, c2, by rw [setBlock_other (by omega)]; exact h2, h3⟩

theorem Ns.cells {w wr : World} {ov wk : Value} {ns : List ByteArray} {bs : List Bool} {dn : List ByteArray} (R : Ns w wr ov wk ns bs dn) :
    wr.cell? ⟨w.heap.size + 3, 1, none⟩ = some (.map (some w.heap.size)) ∧ wr.cell? ⟨w.heap.size + 3, 9, none⟩ = some (.map (some (w.heap.size + 1))) ∧ wr.cell? ⟨w.heap.size + 3, 6, none⟩ = some wk ∧ wr.frozen? ⟨w.heap.size + 3, 6, none⟩ = false := by
  have h := R.sc
  unfold scCells at h
  exact ⟨cell_at (cs := [_, _, _, _, _, _, _, _, _, _]) h 1, cell_at (cs := [_, _, _, _, _, _, _, _, _, _]) h 9, cell_at (cs := [_, _, _, _, _, _, _, _, _, _]) h 6, free_at h 6⟩

theorem info72 : (Try.prog.info? 72).map (fun i => (i.zero, i.size, i.bytes)) = some (some (.pointer none), 1, 8) := by kernel_rfl
/-- 'make([]*unsafeVar, n)': a new row. -/
theorem mk_needs (n : Nat) (hn : n ≤ 65536) (w : World) :
    (Instr.makeSlice 67 (.int .i64 n) (.int .i64 n)).run Try.prog w = .ok (.slice (some ⟨w.heap.size, 0, none⟩) n n) (w.alloc (.cells (madeCells #[.pointer none] n) 72)) := by
  obtain ⟨i0, hi, hz0, hz1, hz2⟩ := info_parts info72
  have h := run_make (P := Try.prog) w 67 72 i0 (.pointer none) Try.underlying67 hi hz0 .i64 .i64 n n (by omega) (by omega) (by rw [hz2]; omega) (by omega)
  rw [h]
  simp only [Int.toNat_natCast, hz1, Nat.mul_one]
  rfl

theorem ns_walk {w wr w1 : World} {ov wk : Value} {ns : List ByteArray} {bs : List Bool} {dn : List ByteArray} (R : Ns w wr ov wk ns bs dn) (k : Keeps wr w1) (hb : Below w.heap.size w w1) (hs : wr.heap.size ≤ w1.heap.size) : Ns w w1 ov wk ns bs dn :=
  ⟨hb, Nat.le_trans R.big hs, k _ _ R.sc rfl, R.vars.keep k, R.decs.keep k, R.wat.keep k⟩
theorem ns_set {w wr : World} {ov wk : Value} {ns : List ByteArray} {bs : List Bool} {dn : List ByteArray} (R : Ns w wr ov wk ns bs dn) (v : Value) : Sc (wr.setCell ⟨w.heap.size + 3, 6, none⟩ v) (w.heap.size + 3) ov ns bs dn v (w.heap.size + 2) ∧ MapIs Value.string (wr.setCell ⟨w.heap.size + 3, 6, none⟩ v) (w.heap.size + 2) [] := by
  have k : ∀ (i : Nat) (o : Obj), wr.heap[i]? = some o → i ≠ w.heap.size + 3 → (wr.setCell ⟨w.heap.size + 3, 6, none⟩ v).heap[i]? = some o := fun i o h hne => by
    rw [heap_setCell_other wr ⟨w.heap.size + 3, 6, none⟩ i v hne]; exact h
  have hmap : ∀ {K : Type} {enc : K → Value} {r : Nat} {m : List (K × Value)}, MapIs enc wr r m → MapIs enc (wr.setCell ⟨w.heap.size + 3, 6, none⟩ v) r m := by
    intro K enc r m h
    obtain ⟨es, c, h1, h2⟩ := h
    refine ⟨es, c, k r _ h1 ?_, h2⟩
    intro e; rw [e, R.sc] at h1; simp at h1
  refine ⟨⟨w.heap.size, w.heap.size + 1, ?_, ?_, ?_⟩, hmap R.wat⟩
  · rw [heap_setCell_same wr (w.heap.size + 3) 6 _ 87 v R.sc]; rfl
  · obtain ⟨V, h1, h2⟩ := R.vars
    refine ⟨V, hmap h1, fun x => ⟨(h2 x).1, fun h3 => ?_⟩⟩
    obtain ⟨l2, s2, h5, h6⟩ := (h2 x).2 h3
    refine ⟨l2, s2, h5, k _ _ h6 ?_⟩
    intro e; rw [e, R.sc] at h6; simp at h6
  · obtain ⟨D, h1, h2⟩ := R.decs
    exact ⟨D, hmap h1, h2⟩
theorem Ns.scope {w wr : World} {ov wk : Value} {ns : List ByteArray} {bs : List Bool} {dn : List ByteArray} (R : Ns w wr ov wk ns bs dn) : Sc wr (w.heap.size + 3) ov ns bs dn wk (w.heap.size + 2) := ⟨_, _, R.sc, R.vars, R.decs⟩

/-- the walk's pointer is laid into the scope: the attempt stands as it stood. -/
theorem att_scope {w : World} {B ab nn sb i : Nat} {rs : List (ByteArray × Int)} {rb : Option Nat} {na : Option Addr} {nc : Nat} {un v nx ch x : Value} {sc : Array Value} {B' : Nat} (hb : w.heap[ab]? = some (.cells #[.slice na nn nc, un, v, nx, ch] 71 (0, 0))) (ho : w.ownsRow B 93 2 v rs.length (rs.flatMap rd)) (hr : v.ownBlock = rb)
    (hs : w.heap[sb]? = some (.cells sc 87 (0, 0))) (hB : B' ≤ B) : Att (w.setCell ⟨sb, i, none⟩ x) B' ab nn rs rb := by
  refine ⟨na, nc, un, v, nx, ch, ?_, ⟨ho.1, ?_⟩, hr⟩
  · rw [heap_setCell_other w ⟨sb, i, none⟩ ab x (by intro e; change ab = sb at e; rw [e, hs] at hb; simp at hb)]; exact hb
  · rcases ho.2 with h2 | ⟨g, cap, cur, hv, hbg, hg, r⟩
    · exact .inl h2
    · refine .inr ⟨g, cap, cur, hv, by omega, ?_, r⟩
      rw [heap_setCell_other w ⟨sb, i, none⟩ g x (by intro e; change g = sb at e; rw [e, hs] at hg; simp at hg)]
      exact hg

theorem take_snocG {α : Type} (l : List α) (k : Nat) (h : k < l.length) : l.take (k + 1) = l.take k ++ [l[k]] := List.take_succ_eq_append_getElem h

/-- WHAT ZZNewScopeB1 LEAVES. -/
def NewPost (ov : Value) (ns : List ByteArray) (bs : List Bool) (dn : List ByteArray) (hw : Bool) (nn : Int) (rn : List ByteArray) (ra : List Int) (w : World) (e : Ending) (w' : World) : Prop :=
  ∃ sb wk wm, w.heap.size ≤ sb ∧ w.heap.size ≤ wm ∧ e = .returned (.pointer (some ⟨sb, 0, none⟩)) ∧ Below w.heap.size w w' ∧ Sc w' sb ov ns bs dn wk wm ∧ MapIs Value.string w' wm [] ∧
    ((hw = false ∧ wk = .pointer none) ∨ (hw = true ∧ ∃ ab rb, wk = .pointer (some ⟨ab, 0, none⟩) ∧ w.heap.size ≤ ab ∧ Att w' w.heap.size ab nn.toNat (rn.zip ra) rb))

set_option maxHeartbeats 4000000 in
set_option maxRecDepth 100000 in
theorem new_any (ov : Value) (hov : ov = .pointer none ∨ ∃ a, ov = .pointer (some a)) (a1 a2 a3 a6 a7 : Option Addr) (c1 c2 c3 c6 c7 : Nat) (ns : List ByteArray) (bs : List Bool) (dn : List ByteArray) (hw : Bool) (nn : Int) (rn : List ByteArray) (ra : List Int) (w : World)
    (hd1 : Dat Value.string w a1 ns) (hd2 : Dat Value.bool w a2 bs) (hd3 : Dat Value.string w a3 dn) (hd6 : Dat Value.string w a6 rn) (hd7 : Dat (Value.int .i64) w a7 ra)
    (hl : ns.length = bs.length) (hl' : rn.length = ra.length) (hn1 : ns.length ≤ 1048576) (hn3 : dn.length ≤ 1048576) (hn6 : rn.length ≤ 1048576) (hnn : hw = true → 0 ≤ nn ∧ nn ≤ 65536) :
    Calls Try.prog 13 #[ov, .slice a1 ns.length c1, .slice a2 bs.length c2, .slice a3 dn.length c3, .bool hw, .int .i64 nn, .slice a6 rn.length c6, .slice a7 ra.length c7] w fun e w' => NewPost ov ns bs dn hw nn rn ra w e w' := by
  have HL : Hid (ns.length = bs.length) := hl
  have HL' : Hid (rn.length = ra.length) := hl'
  have hle : ns.length ≤ bs.length := by omega
  have HN : Hid _ := hnn
  have hmm := @run_makeMap Try.prog
  have HS : Hid _ := ns_start w ov
  clear hl hl' hnn
  have hov' : ∃ p, ov = .pointer p := by rcases hov with h | ⟨a, h⟩; exact ⟨none, h⟩; exact ⟨some a, h⟩
  obtain ⟨p, rfl⟩ := hov'
  clear hov
  go_enter Try.func13, Try.ntmps13
  go_wp2
  go_loopw [31] (fun i wr => ∃ k : Nat, k ≤ ns.length ∧ i = .int .i64 k ∧ Ns w wr (.pointer p) (.pointer none) (ns.take k) (bs.take k) []) (fun i _ => ns.length - (intOf i).toNat)
  case atStart => exact ⟨0, Nat.zero_le _, rfl, by simpa [scCells] using HS.out⟩
  case round =>
    obtain ⟨k, hk, rfl, R⟩ := hrel
    clear HS hmm
    by_cases hlt : k < ns.length
    · have hlt' : k < bs.length := by omega
      obtain ⟨b1, o1, rfl, hb1, hc1⟩ := hd1.at0 (by omega)
      obtain ⟨b2, o2, rfl, hb2, hc2⟩ := hd2.at0 (by omega)
      have d1 := (R.bel.cell (p := ⟨b1, o1 + k, none⟩) hb1).trans (hc1 k hlt)
      have d2 := (R.bel.cell (p := ⟨b2, o2 + k, none⟩) hb2).trans (hc2 k hlt')
      obtain ⟨e1, _, _, _⟩ := R.cells
      have hbig := R.big
      have hbr2 : b2 < wr.heap.size := by omega
      have hbr3 : w.heap.size + 3 < wr.heap.size := by omega
      have hki : (k : Int) < (bs.length : Int) := by omega
      obtain ⟨es, c, hup, RN⟩ := ns_var R (by have := HL.out; simp; omega) ns[k] bs[k] (.int .i64 k)
      have HZ1 : Hid _ := take_snocG ns k hlt
      have HZ2 : Hid _ := take_snocG bs k hlt'
      clear hc1 hc2
      go_wp2
      go_region
      all_goals
        go_wp2
        go_roundw
        case rel => exact ⟨k + 1, by omega, by go_num, by rw [HZ1.out, HZ2.out]; exact RN⟩
        case measure => simp [intOf]; omega
    · have e1 : ns.take k = ns := List.take_of_length_le (by omega)
      have e2 : bs.take k = bs := List.take_of_length_le (by have := HL.out; omega)
      rw [e1, e2] at R
      clear e1 e2
      go_wp2
      go_loopw [51] (fun i wq => ∃ d : Nat, d ≤ dn.length ∧ i = .int .i64 d ∧ Ns w wq (.pointer p) (.pointer none) ns bs (dn.take d)) (fun i _ => dn.length - (intOf i).toNat)
      case atStart => exact ⟨0, Nat.zero_le _, rfl, R⟩
      case round =>
        clear R
        obtain ⟨d, hd, rfl, R⟩ := hrel
        obtain ⟨_, e1, e6, f6⟩ := R.cells
        have hbig := R.big
        by_cases hdl : d < dn.length
        · obtain ⟨b3, o3, rfl, hb3, hc3⟩ := hd3.at0 (by omega)
          have d3 := (R.bel.cell (p := ⟨b3, o3 + d, none⟩) hb3).trans (hc3 d hdl)
          have hdi : (d : Int) < (dn.length : Int) := by omega
          obtain ⟨es, c, hup, RN⟩ := ns_dec R dn[d]
          have HZ3 : Hid _ := take_snocG dn d hdl
          clear hc3
          go_wp2
          go_roundw
          case rel => exact ⟨d + 1, by omega, by go_num, by rw [HZ3.out]; exact RN⟩
          case measure => simp [intOf]; omega
        · have e3 : dn.take d = dn := List.take_of_length_le (by omega)
          rw [e3] at R
          clear e3
          cases hw with
          | false =>
            go_wp2
            go_ret
            unfold NewPost
            exact ⟨w.heap.size + 3, .pointer none, w.heap.size + 2, by omega, by omega, rfl, R.bel, R.scope, R.wat, .inl ⟨rfl, rfl⟩⟩
          | true =>
            obtain ⟨q0, q1⟩ := HN.out rfl
            obtain ⟨n, rfl⟩ := Int.eq_ofNat_of_zero_le q0
            have hmk := mk_needs n (by omega)
            go_wp2_with fail
            obtain ⟨w2, hw2⟩ : ∃ w2, w2 = (wr.alloc (.cells (madeCells #[.pointer none] n) 72)).alloc (.cells #[.slice (some ⟨wr.heap.size, 0, none⟩) n n, .slice none 0 0, .slice none 0 0, .int .i64 0, .int .i64 0] 71) := ⟨_, rfl⟩
            have hL1 : Below wr.heap.size wr w2 := by rw [hw2]; exact ((Below.refl _ _).alloc (Nat.le_refl _) _).alloc (by simp) _
            have hab2 : w2.heap[wr.heap.size + 1]? = some (.cells #[.slice (some ⟨wr.heap.size, 0, none⟩) n n, .slice none 0 0, .slice none 0 0, .int .i64 0, .int .i64 0] 71 (0, 0)) := by rw [hw2]; exact heap_alloc_at _ _ _ (by simp)
            have hL2 : Below w.heap.size w w2 := R.bel.trans (hL1.mono (by omega))
            have R2 := ns_walk R (Keeps.below hL1) hL2 hL1.size
            rw [← hw2]
            clear hw2
            refine (setReads_any w (wr.heap.size + 1) n _ _ _ _ _ _ a6 a7 rn ra c6 c7 w2 hab2 hL2 (by omega) hd6 hd7 HL'.out hn6).mono ?_
            rintro e w3 ⟨rfl, rb, hA, hC⟩
            have hsz := hL1.size
            have hL3 : Below w.heap.size w w3 := hC.below hL2 (by omega) (by simp)
            have R3 := ns_walk R2 (Keeps.chg hC hab2 (by simp)) hL3 hC.size
            obtain ⟨_, _, e6', f6'⟩ := R3.cells
            obtain ⟨na, nc, un, v, nx, ch, hb3, hown3, hrb3⟩ := hA.ex
            have HF : Hid _ := att_scope (i := 6) (x := .pointer (some ⟨wr.heap.size + 1, 0, none⟩)) (B' := w.heap.size) hb3 hown3 hrb3 R3.sc (by omega)
            have HSC : Hid _ := ns_set R3 (.pointer (some ⟨wr.heap.size + 1, 0, none⟩))
            have hL4 : Below w.heap.size w (w3.setCell ⟨w.heap.size + 3, 6, none⟩ (.pointer (some ⟨wr.heap.size + 1, 0, none⟩))) := hL3.setCell (by show _ ≤ w.heap.size + 3; omega) _
            clear hb3 hown3 hrb3 e6 f6
            go_wp2
            go_ret
            unfold NewPost
            exact ⟨w.heap.size + 3, _, w.heap.size + 2, by omega, by omega, rfl, hL4, HSC.out.1, HSC.out.2, .inr ⟨rfl, _, rb, rfl, by omega, HF.out⟩⟩
end Go.Proofs.Qxb6602244a
