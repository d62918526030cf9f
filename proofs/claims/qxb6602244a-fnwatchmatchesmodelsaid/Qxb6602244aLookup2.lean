/-
  (*scope).lookup (41): the walk.
-/
import Derived.Test.Qxb6602244aLookup
namespace Go.Proofs.Qxb6602244a
open Go.ChangeShapes Go.WideShapes Go.ChangeAt Go.RowKit
set_option linter.unusedVariables false

/-- K: the innermost frame that declares the name; fs.length where none does. -/
structure Fst (fs : List Fr) (name : ByteArray) (K : Nat) : Prop where
  le : K ≤ fs.length
  no : ∀ m, m < K → (h : m < fs.length) → has fs[m].vn name = false
  yes : (h : K < fs.length) → has fs[K].vn name = true

def bdOf (fs : List Fr) (name : ByteArray) (K : Nat) : Bool := if h : K < fs.length then boundIn fs[K].vn fs[K].vb name else false
def dcOf (fs : List Fr) (name : ByteArray) (m : Nat) : Bool := if h : m < fs.length then has fs[m].dc name else false
/-- whose reads are noted while the second loop stands at i. -/
def pl (fs : List Fr) (name : ByteArray) (bd : Bool) (i : Nat) : Nat → Bool := fun m => decide (m < i) && (!bd || dcOf fs name m)
theorem pl_zero (fs : List Fr) (name : ByteArray) (bd : Bool) : pl fs name bd 0 = fun _ => false := by funext m; simp [pl]
theorem pl_yes (fs : List Fr) (name : ByteArray) (bd : Bool) (i : Nat) (h : (!bd || dcOf fs name i) = true) : (fun m => pl fs name bd i m || decide (m = i)) = pl fs name bd (i + 1) := by
  funext m
  unfold pl
  by_cases e : m = i
  · subst e; simp only [Nat.lt_irrefl, decide_false, Bool.false_and, decide_true, Bool.or_true]; rw [h]; simp
  · by_cases h2 : m < i
    · simp [h2, e, show m < i + 1 from by omega]
    · simp [h2, e, show ¬ m < i + 1 from by omega]
theorem pl_no (fs : List Fr) (name : ByteArray) (bd : Bool) (i : Nat) (h : (!bd || dcOf fs name i) = false) : pl fs name bd i = pl fs name bd (i + 1) := by
  funext m
  unfold pl
  by_cases e : m = i
  · subst e; rw [h]; simp
  · by_cases h2 : m < i
    · simp [h2, show m < i + 1 from by omega]
    · simp [h2, show ¬ m < i + 1 from by omega]
theorem pl_self (fs : List Fr) (name : ByteArray) (bd : Bool) (i : Nat) : pl fs name bd i i = false := by simp [pl]

/-- what the second loop keeps. -/
structure Lp (B : Nat) (w wr : World) (fs : List Fr) (sb ab wm : Nat → Nat) (rs : Nat → List (ByteArray × Int)) (p : Nat → Bool) (name : ByteArray) : Prop where
  ch : ∃ rb, Chain B wr fs 0 sb ab wm rb (noteP fs name p rs)
  rest : Rest w wr
  bel : Below B w wr

theorem noteP_congr (fs : List Fr) (name : ByteArray) (p p' : Nat → Bool) (rs : Nat → List (ByteArray × Int)) (h : ∀ m, m < fs.length → p m = p' m) : noteP fs name p rs = noteP fs name p' rs := by
  funext m
  unfold noteP
  by_cases hm : m < fs.length
  · simp only [dif_pos hm, h m hm]
  · simp only [dif_neg hm]
theorem Lp.congr {B : Nat} {w wr : World} {fs : List Fr} {sb ab wm : Nat → Nat} {rs : Nat → List (ByteArray × Int)} {p p' : Nat → Bool} {name : ByteArray} (h : Lp B w wr fs sb ab wm rs p name) (he : ∀ m, m < fs.length → p m = p' m) : Lp B w wr fs sb ab wm rs p' name := by
  obtain ⟨⟨rb, hc⟩, h2, h3⟩ := h
  exact ⟨⟨rb, by rw [← noteP_congr fs name p p' rs he]; exact hc⟩, h2, h3⟩
theorem lp_start {B : Nat} {w : World} {fs : List Fr} {sb ab wm : Nat → Nat} {rb : Nat → Option Nat} {rs : Nat → List (ByteArray × Int)} (hC : Chain B w fs 0 sb ab wm rb rs) (name : ByteArray) (bd : Bool) : Lp B w w fs sb ab wm rs (pl fs name bd 0) name :=
  ⟨⟨rb, by rw [pl_zero, noteP_none]; exact hC⟩, Rest.refl _, Below.refl _ _⟩

/-- saw in the second loop. -/
theorem saw_lp {B : Nat} {w wr : World} {fs : List Fr} {sb ab wm : Nat → Nat} {rs : Nat → List (ByteArray × Int)} {p : Nat → Bool} {name : ByteArray} (R : Lp B w wr fs sb ab wm rs p name) (i : Nat) (hi : i < fs.length) (hp : p i = false) (hn : (rs i).length ≤ 1048576) (hB : B ≤ w.heap.size) :
    Calls Try.prog 51 #[.pointer (some ⟨sb i, 0, none⟩), .string name] wr fun e w' => e = .returned (.tuple #[]) ∧ Lp B w w' fs sb ab wm rs (fun m => p m || decide (m = i)) name := by
  obtain ⟨rb, hC⟩ := R.ch
  refine (saw_chain hC i hi name (by have := noteP_len fs name p rs i; omega) (Nat.le_trans hB R.bel.size)).mono ?_
  rintro e w' ⟨rfl, rb', hC', hr, hb⟩
  exact ⟨rfl, ⟨rb', by rw [← note1_noteP fs name p rs i hp]; exact hC'⟩, R.rest.trans hr, R.bel.trans hb⟩

/-- whose reads are noted in the end. -/
def pAll (fs : List Fr) (name : ByteArray) (bd : Bool) (K : Nat) : Nat → Bool := fun m => pl fs name bd K m || (decide (m = K) && !bd)

/-- WHAT lookup LEAVES. -/
def LookPost (B : Nat) (w : World) (fs : List Fr) (sb ab wm : Nat → Nat) (rs : Nat → List (ByteArray × Int)) (name : ByteArray) (K : Nat) (e : Ending) (w' : World) : Prop :=
  ∃ lv, e = .returned lv ∧ ((¬ K < fs.length ∧ lv = .pointer none) ∨ (K < fs.length ∧ ∃ lb, lv = .pointer (some ⟨lb, 0, none⟩) ∧ VarAt w' (sb K) name lb (bdOf fs name K))) ∧
    Lp B w w' fs sb ab wm rs (pAll fs name (bdOf fs name K) K) name

set_option maxHeartbeats 4000000 in
set_option maxRecDepth 100000 in
theorem lookup_none {B : Nat} {w : World} {fs : List Fr} {sb ab wm : Nat → Nat} {rb : Nat → Option Nat} {rs : Nat → List (ByteArray × Int)} (hC : Chain B w fs 0 sb ab wm rb rs) (name : ByteArray) (hF : Fst fs name fs.length)
    (hn : ∀ i, i < fs.length → (rs i).length ≤ 1048576) (hB : B ≤ w.heap.size) :
    Calls Try.prog 41 #[.pointer (pp sb fs.length 0), .string name] w fun e w' => LookPost B w fs sb ab wm rs name fs.length e w' := by
  have HN : Hid _ := hn
  clear hn
  go_enter Try.func41, Try.ntmps41
  go_wp2
  go_loopg [5] fs.length (fun k v wr => w = wr ∧ ∃ i, i ≤ fs.length ∧ k = fs.length - i ∧ v = .pointer (pp sb fs.length i))
  case atStart => exact ⟨rfl, 0, Nat.zero_le _, rfl, rfl⟩
  case round =>
    obtain ⟨rfl, i, hi, hk, rfl⟩ := hrel
    have HK : Hid _ := hk
    clear hk
    by_cases hlt : i < fs.length
    · obtain ⟨vm, dm, c0, c1, c9, l1, _, _⟩ := sc_facts hC i hlt name
      have hl := l1 (hF.no i hlt hlt)
      clear l1
      rw [pp_in hlt]
      go_wp2
      go_roundg (fs.length - (i + 1))
      case measure => rw [HK.out]; omega
      case rel => exact ⟨rfl, i + 1, by omega, rfl, rfl⟩
    · rw [pp_out hlt]
      have HL : Hid _ := lp_start hC name false
      clear hC
      go_wp2
      go_loopg [0] fs.length (fun k v wq => ∃ i, i ≤ fs.length ∧ k = fs.length - i ∧ v = .pointer (pp sb fs.length i) ∧ Lp B w wq fs sb ab wm rs (pl fs name false i) name)
      case atStart => exact ⟨0, Nat.zero_le _, rfl, rfl, HL.out⟩
      case round =>
        obtain ⟨m, hm, hk2, rfl, R⟩ := hrel
        have HK2 : Hid _ := hk2
        clear hk2 HL
        by_cases hml : m < fs.length
        · rw [pp_in hml]
          go_wp2_with fail
          refine (saw_lp R m hml (pl_self fs name false m) (HN.out m hml) hB).mono ?_
          rintro e w2 ⟨rfl, R2⟩
          rw [pl_yes fs name false m (by simp)] at R2
          obtain ⟨rb2, hC2⟩ := R2.ch
          obtain ⟨vm2, dm2, c02, _⟩ := sc_facts hC2 m hml name
          clear hC2
          go_wp2
          go_roundg (fs.length - (m + 1))
          case measure => rw [HK2.out]; omega
          case rel => exact ⟨m + 1, by omega, rfl, rfl, R2⟩
        · obtain rfl : m = fs.length := by omega
          rw [pp_out hml]
          go_wp2
          go_ret
          unfold LookPost
          have hbd : bdOf fs name fs.length = false := by unfold bdOf; rw [dif_neg hml]
          refine ⟨_, rfl, .inl ⟨hml, rfl⟩, ?_⟩
          rw [hbd]
          exact R.congr (fun q hq => by simp [pAll, show ¬ q = fs.length from by omega])

set_option maxHeartbeats 4000000 in
set_option maxRecDepth 100000 in
theorem lookup_some {B : Nat} {w : World} {fs : List Fr} {sb ab wm : Nat → Nat} {rb : Nat → Option Nat} {rs : Nat → List (ByteArray × Int)} (hC : Chain B w fs 0 sb ab wm rb rs) (name : ByteArray) (K : Nat) (hKn : K < fs.length) (hF : Fst fs name K)
    (hn : ∀ i, i < fs.length → (rs i).length ≤ 1048576) (hB : B ≤ w.heap.size) :
    Calls Try.prog 41 #[.pointer (pp sb fs.length 0), .string name] w fun e w' => LookPost B w fs sb ab wm rs name K e w' := by
  have HN : Hid _ := hn
  clear hn
  go_enter Try.func41, Try.ntmps41
  go_wp2
  go_loopg [5] K (fun k v wr => w = wr ∧ ∃ i, i ≤ K ∧ k = K - i ∧ v = .pointer (pp sb fs.length i))
  case atStart => exact ⟨rfl, 0, Nat.zero_le _, rfl, rfl⟩
  case round =>
    obtain ⟨rfl, i, hi, hk, rfl⟩ := hrel
    have HK : Hid _ := hk
    clear hk
    by_cases hlt : i < K
    · have hlt' : i < fs.length := by omega
      obtain ⟨vm, dm, c0, c1, c9, l1, _, _⟩ := sc_facts hC i hlt' name
      have hl := l1 (hF.no i hlt hlt')
      clear l1
      rw [pp_in hlt']
      go_wp2
      go_roundg (K - (i + 1))
      case measure => rw [HK.out]; omega
      case rel => exact ⟨rfl, i + 1, by omega, rfl, rfl⟩
    · obtain rfl : i = K := by omega
      rw [pp_in hKn]
      obtain ⟨vm, dm, c0, c1, c9, _, l2, _⟩ := sc_facts hC i hKn name
      obtain ⟨lb, hl, hV⟩ := l2 (hF.yes hKn)
      have HV : Hid (VarAt w (sb i) name lb (bdOf fs name i)) := by unfold bdOf; rw [dif_pos hKn]; exact hV
      obtain ⟨_, _, sl, _, _, _, hlb⟩ := HV.out
      have b1 := cell_at (cs := [_, _, _]) hlb 1
      simp only [List.getElem?_cons_succ, List.getElem?_cons_zero] at b1
      have HL : Hid _ := lp_start hC name (bdOf fs name i)
      obtain ⟨_, _, hsK, _⟩ := (hC.sc i (Nat.zero_le _) hKn).ex
      have HSK : Hid _ := hsK
      clear l2 hV hlb hsK
      generalize hbd : bdOf fs name i = bd at *
      have HBD : Hid (bdOf fs name i = bd) := hbd
      clear hbd
      go_wp2
      go_loopg [0] i (fun k v wq => ∃ m, m ≤ i ∧ k = i - m ∧ v = .pointer (pp sb fs.length m) ∧ Lp B w wq fs sb ab wm rs (pl fs name bd m) name)
      case atStart => exact ⟨0, Nat.zero_le _, rfl, rfl, HL.out⟩
      case round =>
        obtain ⟨m, hm, hk2, rfl, R⟩ := hrel
        have HK2 : Hid _ := hk2
        clear hk2 HL hl c0 c1 c9 b1
        obtain ⟨rbm, hCm⟩ := R.ch
        by_cases hml : m < i
        · have hml' : m < fs.length := by omega
          have hq := sc_neq hCm m i hml hKn
          obtain ⟨vm1, dm1, c01, _, c91, _, _, l83⟩ := sc_facts hCm m hml' name
          have HDC : Hid (dcOf fs name m = has fs[m].dc name) := by unfold dcOf; rw [dif_pos hml']; rfl
          rw [pp_in hml']
          clear hCm
          by_cases hnt : (!bd || dcOf fs name m) = true
          · have HP : Hid _ := pl_yes fs name bd m hnt
            cases bd with
            | false =>
              clear hnt
              go_wp2_with fail
              refine (saw_lp R m hml' (pl_self fs name _ m) (HN.out m hml') hB).mono ?_
              rintro e w2 ⟨rfl, R2⟩
              rw [HP.out] at R2
              obtain ⟨rb2, hC2⟩ := R2.ch
              obtain ⟨vm2, dm2, c02, _⟩ := sc_facts hC2 m hml' name
              clear hC2 hq
              go_wp2
              go_roundg (i - (m + 1))
              case measure => rw [HK2.out]; omega
              case rel => exact ⟨m + 1, by omega, rfl, rfl, R2⟩
            | true =>
              have hd : has fs[m].dc name = true := by rw [← HDC.out]; simpa using hnt
              rw [hd] at l83
              clear hnt hd
              go_wp2_with fail
              refine (saw_lp R m hml' (pl_self fs name _ m) (HN.out m hml') hB).mono ?_
              rintro e w2 ⟨rfl, R2⟩
              rw [HP.out] at R2
              obtain ⟨rb2, hC2⟩ := R2.ch
              obtain ⟨vm2, dm2, c02, _⟩ := sc_facts hC2 m hml' name
              clear hC2 hq
              go_wp2
              go_roundg (i - (m + 1))
              case measure => rw [HK2.out]; omega
              case rel => exact ⟨m + 1, by omega, rfl, rfl, R2⟩
          · have hnt' : (!bd || dcOf fs name m) = false := by simpa using hnt
            have R2 := R
            rw [pl_no fs name bd m hnt'] at R2
            rw [Bool.or_eq_false_iff] at hnt'
            have hbt : bd = true := by simpa using hnt'.1
            have hd : has fs[m].dc name = false := by rw [← HDC.out]; exact hnt'.2
            subst hbt
            rw [hd] at l83
            have HR2 : Hid _ := R2
            clear hnt hnt' hd R2
            go_wp2
            go_roundg (i - (m + 1))
            case measure => rw [HK2.out]; omega
            case rel => exact ⟨m + 1, by omega, rfl, rfl, HR2.out⟩
        · obtain rfl : m = i := by omega
          rw [pp_in hKn]
          have hq := sc_same wr ⟨sb m, 0, none⟩
          have hV2 := HV.out.rest R.rest HSK.out
          clear hCm
          cases bd with
          | true =>
            go_wp2
            go_ret
            unfold LookPost
            rw [HBD.out]
            exact ⟨_, rfl, .inr ⟨hKn, lb, rfl, hV2⟩, R.congr (fun q hq => by simp [pAll])⟩
          | false =>
            go_wp2_with fail
            refine (saw_lp R m hKn (pl_self fs name false m) (HN.out m hKn) hB).mono ?_
            rintro e w2 ⟨rfl, R2⟩
            go_wp2
            go_ret
            unfold LookPost
            rw [HBD.out]
            exact ⟨_, rfl, .inr ⟨hKn, lb, rfl, HV.out.rest R2.rest HSK.out⟩, R2.congr (fun q hq => by simp [pAll])⟩
end Go.Proofs.Qxb6602244a
