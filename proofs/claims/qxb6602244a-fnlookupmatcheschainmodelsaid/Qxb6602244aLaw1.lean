/-
  FnLookupMatchesChainModel (4): what its walk leans on.
-/
import Derived.Test.Qxb6602244aReads2
import Derived.Test.Qxb6602244aBuild
import Derived.Test.Qxb6602244aZzb
namespace Go.Proofs.Qxb6602244a
open Go.ChangeShapes Go.WideShapes Go.ChangeAt Go.RowKit
set_option linter.unusedVariables false

theorem zip_fst (a : List ByteArray) (b : List Int) (h : a.length = b.length) : (a.zip b).map (·.1) = a := by
  rw [List.map_fst_zip]; omega
theorem zip_snd (a : List ByteArray) (b : List Int) (h : a.length = b.length) : (a.zip b).map (·.2) = b := by
  rw [List.map_snd_zip]; omega

theorem reads_fst {fs : List Fr} {name : ByteArray} {p : Nat → Bool} {i : Nat} (h : i < fs.length) (hl : fs[i].rn.length = fs[i].ra.length) (hw : fs[i].hw = true) :
    (noteP fs name p (rs0 fs) i).map (·.1) = fs[i].rn ++ (if p i then [name] else []) := by
  unfold noteP rs0
  rw [dif_pos h, dif_pos h]
  by_cases hp : p i = true
  · rw [if_pos ⟨hp, hw⟩, if_pos hp, List.map_append, zip_fst _ _ hl]; rfl
  · rw [if_neg (fun e => hp e.1), if_neg hp, zip_fst _ _ hl]; simp
theorem reads_snd {fs : List Fr} {name : ByteArray} {p : Nat → Bool} {i : Nat} (h : i < fs.length) (hl : fs[i].rn.length = fs[i].ra.length) (hw : fs[i].hw = true) (hn : 0 ≤ fs[i].nn) :
    (noteP fs name p (rs0 fs) i).map (·.2) = fs[i].ra ++ (if p i then [fs[i].nn] else []) := by
  unfold noteP rs0
  rw [dif_pos h, dif_pos h]
  have e : ((fs[i].nn.toNat : Nat) : Int) = fs[i].nn := by omega
  by_cases hp : p i = true
  · rw [if_pos ⟨hp, hw⟩, if_pos hp, List.map_append, zip_snd _ _ hl]; simp [e]
  · rw [if_neg (fun e => hp e.1), if_neg hp, zip_snd _ _ hl]; simp

/-- WHAT STANDS WHILE THE READS ARE HELD AGAINST THE MODEL. B: the row of scopes' block. -/
structure Ls (w wr : World) (a : Option Addr) (fs : List Fr) (name : ByteArray) (B : Nat) (sb : Nat → Nat) (p : Nat → Bool) : Prop where
  ch : ∃ ab wm rb, Chain B wr fs 0 sb ab wm rb (noteP fs name p (rs0 fs))
  row : wr.heap[B]? = some (.cells (ptrs sb fs.length 0).toArray 31 (0, 0))
  fr : Frames wr a fs
  bel : Below w.heap.size w wr
  fit : ∀ f ∈ fs, fits f = true
  good : ∀ f ∈ fs, good f
theorem Ls.below {w wr w' : World} {a : Option Addr} {fs : List Fr} {name : ByteArray} {B : Nat} {sb : Nat → Nat} {p : Nat → Bool} (h : Ls w wr a fs name B sb p) (hb : Below wr.heap.size wr w') : Ls w w' a fs name B sb p := by
  obtain ⟨⟨ab, wm, rb, hc⟩, h2, h3, h4, h5, h6⟩ := h
  exact ⟨⟨ab, wm, rb, hc.below hb⟩, by rw [hb.block B (Array.getElem?_eq_some_iff.1 h2).1]; exact h2, h3.below hb, h4.trans (hb.mono h4.size), h5, h6⟩

/-- the reads of scope i, copied out and held: the two calls' contracts in one word each. -/
theorem Ls.at_ {w wr : World} {a : Option Addr} {fs : List Fr} {name : ByteArray} {B : Nat} {sb : Nat → Nat} {p : Nat → Bool} (h : Ls w wr a fs name B sb p) (i : Nat) (hi : i < fs.length) :
    wr.cell? ⟨B, i, none⟩ = some (.pointer (some ⟨sb i, 0, none⟩)) ∧ sb i < wr.heap.size ∧
      ((fs[i].hw = false ∧ wr.cell? ⟨sb i, 6, none⟩ = some (.pointer none)) ∨ (fs[i].hw = true ∧ ∃ ab rb, wr.cell? ⟨sb i, 6, none⟩ = some (.pointer (some ⟨ab, 0, none⟩)) ∧ Att wr B ab fs[i].nn.toNat (noteP fs name p (rs0 fs) i) rb)) := by
  obtain ⟨ab, wm, rb, hc⟩ := h.ch
  have hs := hc.sc i (Nat.zero_le _) hi
  obtain ⟨vm, dm, hsc, _, _⟩ := hs.ex
  unfold scCells at hsc
  have c6 := cell_at (cs := [_, _, _, _, _, _, _, _, _, _]) hsc 6
  simp only [List.getElem?_cons_succ, List.getElem?_cons_zero] at c6
  refine ⟨?_, hs.lt, ?_⟩
  · rw [cell_at h.row, ptrs_at _ _ _ _ hi, if_pos (Nat.zero_le _)]; rfl
  · cases hw : fs[i].hw with
    | false => rw [hw] at c6; exact .inl ⟨rfl, by simpa using c6⟩
    | true => rw [hw] at c6; exact .inr ⟨rfl, ab i, rb i, by simpa [ptr] using c6, hc.att i (Nat.zero_le _) hi hw⟩

theorem pl_n (fs : List Fr) (name : ByteArray) (m : Nat) (h : m < fs.length) : pAll fs name (bdOf fs name fs.length) fs.length m = true := by
  have hb : bdOf fs name fs.length = false := by unfold bdOf; rw [dif_neg (by omega)]
  rw [hb]; simp [pAll, pl, h]


theorem ls_of {w w4 w5 w6 : World} {a : Option Addr} {fs : List Fr} {name : ByteArray} {sb ab wm : Nat → Nat} {p : Nat → Bool} (hF : Frames w a fs) (L4 : Below w.heap.size w w4) (RB : Bld w4 w5 fs 0 sb) (RL : Lp w4.heap.size w5 w6 fs sb ab wm (rs0 fs) p name)
    (hg : ∀ f ∈ fs, good f) (hf : ∀ f ∈ fs, fits f = true) : Ls w w6 a fs name w4.heap.size sb p := by
  have L6 : Below w.heap.size w w6 := (L4.trans (RB.bel.mono L4.size)).trans (RL.bel.mono L4.size)
  obtain ⟨rb, hc⟩ := RL.ch
  exact ⟨⟨ab, wm, rb, hc⟩, RL.rest _ _ RB.row rfl, hF.below L6, L6, hf, hg⟩

/-- zzReadsAreB1, the lengths as the copy left them. -/
theorem readsAre_at (a1 a2 a3 a4 : Option Addr) (c1 c2 c3 c4 n1 n2 : Nat) (ps : List ByteArray) (qs : List Int) (nt : Bool) (name : ByteArray) (n : Int) (w : World) (xs : List ByteArray) (ys : List Int)
    (hx : xs = ps ++ (if nt then [name] else [])) (hy : ys = qs ++ (if nt then [n] else [])) (hl : ps.length = qs.length) (hn : ps.length ≤ 1048576) (h1 : n1 = xs.length) (h2 : n2 = ys.length)
    (d1 : Dat Value.string w a1 xs) (d2 : Dat (Value.int .i64) w a2 ys) (d3 : Dat Value.string w a3 ps) (d4 : Dat (Value.int .i64) w a4 qs) :
    Calls Try.prog 25 #[.slice a1 n1 c1, .slice a2 n2 c2, .slice a3 ps.length c3, .slice a4 qs.length c4, .bool nt, .string name, .int .i64 n] w fun e w' => e = .returned (.bool true) ∧ ∃ k, w' = w.drewN k := by
  subst h1; subst h2
  exact readsAre_yes a1 a2 a3 a4 c1 c2 c3 c4 ps qs nt name n w xs ys hx hy hl hn d1 d2 d3 d4

/-- what the copy of scope i's reads says of zzReadsAreB1's arguments. -/
theorem below_drewN {B : Nat} {a w : World} (h : Below B a w) (k : Nat) : Below B a (w.drewN k) := ⟨h.os, h.tape, h.output, h.size, h.block⟩

theorem info89 : (Try.prog.info? 89).map (fun i => i.size) = some 3 := by kernel_rfl
theorem ptr40_same (W : World) (a : Addr) : (binOp .neq 40 (.pointer (some a)) (.pointer (some a))).run Try.prog W = .ok (.bool false) W := by
  obtain ⟨j, hj, hs⟩ := Option.map_eq_some_iff.1 info89
  exact run_neq_ptr_same W a Try.underlying40 hj
theorem Ls.drew9 {w wr w' : World} {a : Option Addr} {fs : List Fr} {name : ByteArray} {B : Nat} {sb : Nat → Nat} {p : Nat → Bool} {k : Nat} (h : Ls w wr a fs name B sb p) (e : w' = wr.drewN k) : Ls w w' a fs name B sb p := by
  subst e; exact h.below (below_drewN (Below.refl _ _) _)
theorem VarAt.drewN {w : World} {s : Nat} {name : ByteArray} {lb : Nat} {bd : Bool} (h : VarAt w s name lb bd) (k : Nat) : VarAt (w.drewN k) s name lb bd := h
end Go.Proofs.Qxb6602244a
