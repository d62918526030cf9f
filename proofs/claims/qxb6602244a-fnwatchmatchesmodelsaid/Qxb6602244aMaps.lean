/-
  A MAP THAT THE CALL MADE, AS AN ORDERED LIST OF PAIRS: look-up, store, length: laws over any program, for keys that are strings or integers, whatever the elements.
-/
import Derived.Test.Qxb6602244aBase
import Derived.ChangeMaps4
namespace Go.Proofs.Qxb6602244a
open Go.RowKit
set_option linter.unusedSectionVars false

/-! ### plain: association lists -/
def get {K V : Type} [DecidableEq K] : List (K × V) → K → Option V
  | [], _ => none
  | (k', v) :: t, k => if k' = k then some v else get t k
def upd {K V : Type} [DecidableEq K] : List (K × V) → K → V → List (K × V)
  | [], k, v => [(k, v)]
  | (k', v') :: t, k, v => if k' = k then (k, v) :: t else (k', v') :: upd t k v

theorem get_upd {K V : Type} [DecidableEq K] (m : List (K × V)) (k : K) (v : V) (k' : K) : get (upd m k v) k' = if k = k' then some v else get m k' := by
  induction m with
  | nil => simp [upd, get]
  | cons p t ih =>
    obtain ⟨a, b⟩ := p
    simp only [upd]
    by_cases h : a = k
    · rw [if_pos h]; subst h; simp only [get]; split <;> rfl
    · rw [if_neg h]
      simp only [get, ih]
      by_cases h2 : a = k'
      · rw [if_pos h2, if_pos h2, if_neg (fun e => h (h2.trans e.symm))]
      · rw [if_neg h2, if_neg h2]
theorem upd_len {K V : Type} [DecidableEq K] (m : List (K × V)) (k : K) (v : V) : (upd m k v).length = m.length + (if (get m k).isSome then 0 else 1) := by
  induction m with
  | nil => simp [upd, get]
  | cons p t ih =>
    obtain ⟨a, b⟩ := p
    simp only [upd, get]
    by_cases h : a = k
    · simp [h]
    · simp only [h, if_false, List.length_cons, ih]; omega

/-! ### the model's maps -/
/-- what a map of the model holds, as pairs. -/
def ents {K : Type} (enc : K → Value) (es : List MapEntry) (m : List (K × Value)) : Prop := es.map (fun e => (e.key, e.val)) = m.map (fun p => (enc p.1, p.2))
/-- block r holds the map m. -/
def MapIs {K : Type} (enc : K → Value) (w : World) (r : Nat) (m : List (K × Value)) : Prop := ∃ es clock, w.heap[r]? = some (.map es clock) ∧ ents enc es.toList m

/-- keys that are told apart at once. -/
structure Keys {K : Type} [DecidableEq K] (P : Program) (kt : TypeId) (enc : K → Value) : Prop where
  ex : ∃ d, P.underlying kt = some d ∧ (∀ a b, Instr.sameNow d (enc a) (enc b) = some (decide (a = b))) ∧ (∀ e k w, (Instr.checkKey e 10000 kt (enc k)).run P w = .ok () w)
  stays : ∀ a, Instr.sameBits 10000 (enc a) (enc a) = true

theorem keys_string {P : Program} {kt : TypeId} (h : P.underlying kt = some .string) : Keys P kt Value.string where
  ex := ⟨.string, h, fun a b => by simp [Instr.sameNow, beqs], fun e k w => by show (Instr.checkKey e (9999 + 1) kt (.string k)).run P w = _; unfold Instr.checkKey; simp [run_underlying h]⟩
  stays := fun a => by simp [Instr.sameBits, beqs]
theorem keys_int {P : Program} {kt : TypeId} {ik : IntKind} (h : P.underlying kt = some (.int ik)) : Keys P kt (Value.int .i64) where
  ex := ⟨.int ik, h, fun a b => by by_cases e : a = b <;> simp [Instr.sameNow, e], fun e k w => by show (Instr.checkKey e (9999 + 1) kt (.int .i64 k)).run P w = _; unfold Instr.checkKey; simp [run_underlying h]⟩
  stays := fun a => by simp [Instr.sameBits]

section
variable {K : Type} [DecidableEq K] {enc : K → Value} {P : Program} {kt : TypeId}

theorem findNow_get {d : TypeDesc} (hs : ∀ a b, Instr.sameNow d (enc a) (enc b) = some (decide (a = b))) (k : K) : ∀ (es : List MapEntry) (m : List (K × Value)) (i : Nat), ents enc es m →
    (get m k = none → Instr.findNow d (enc k) es i = some none) ∧
    (∀ v, get m k = some v → ∃ j e, es[j]? = some e ∧ e.key = enc k ∧ Instr.findNow d (enc k) es i = some (some (i + j, v)) ∧ ∀ u : Value, ents enc (es.modify j (fun e => { e with key := enc k, val := u })) (upd m k u)) := by
  intro es
  induction es with
  | nil =>
    intro m i h
    cases m with
    | nil => exact ⟨fun _ => rfl, fun v hv => by simp [get] at hv⟩
    | cons p t => simp [ents] at h
  | cons e es ih =>
    intro m i h
    cases m with
    | nil => simp [ents] at h
    | cons p t =>
      obtain ⟨a, b⟩ := p
      simp only [ents, List.map_cons, List.cons.injEq, Prod.mk.injEq] at h
      obtain ⟨⟨hk, hv⟩, ht⟩ := h
      by_cases hak : a = k
      · subst hak
        refine ⟨fun hn => by simp [get] at hn, ?_⟩
        intro v hgv
        simp [get] at hgv
        subst hgv
        refine ⟨0, e, rfl, hk, ?_, ?_⟩
        · simp [Instr.findNow, hk, hs, hv]
        · intro u
          simp [ents, upd, ht]
      · have hne : decide (k = a) = false := by simp; exact fun e => hak e.symm
        obtain ⟨i1, i2⟩ := ih t (i + 1) ht
        constructor
        · intro hn
          simp only [get, if_neg hak] at hn
          simp [Instr.findNow, hk, hs, hne, i1 hn]
        · intro v hgv
          simp only [get, if_neg hak] at hgv
          obtain ⟨j, e', h1, h2, h3, h4⟩ := i2 v hgv
          refine ⟨j + 1, e', by simpa using h1, h2, ?_, ?_⟩
          · simp only [Instr.findNow, hk, hs, hne]
            rw [h3]; congr 3; omega
          · intro u
            have := h4 u
            simp only [ents] at this ⊢
            simp [upd, hak, this, hk, hv]

/-- 'm[k]', 'v, ok := m[k]'. -/
theorem look_map (hK : Keys P kt enc) {T et : TypeId} {z : Value} {w : World} {r : Nat} {m : List (K × Value)} (hT : P.underlying T = some (.map kt et)) (hz : (P.info? et).map (fun i => i.zero) = some (some z)) (h : MapIs enc w r m) (k : K) (c : Bool) :
    (Instr.lookup T (.map (some r)) (enc k) c).run P w = .ok (if c then .tuple #[(get m k).getD z, .bool (get m k).isSome] else (get m k).getD z) w := by
  obtain ⟨es, clock, hh, he⟩ := h
  obtain ⟨d, hd, hs, hc⟩ := hK.ex
  obtain ⟨i0, hi, hzz⟩ := Option.map_eq_some_iff.1 hz
  have hf := findNow_get hs k es.toList m 0 he
  have hg := MapKept.run_getObj_map (P := P) hh
  cases hgk : get m k with
  | none =>
    have := hf.1 hgk
    cases c <;> simp [Instr.lookup, run_underlying hT, hg, hc, Instr.findKey, run_underlying hd, this, zeroValue, typeInfo, hi, hzz, Result.andThen]
  | some v =>
    obtain ⟨j, e, _, _, h3, _⟩ := hf.2 v hgk
    cases c <;> simp [Instr.lookup, run_underlying hT, hg, hc, Instr.findKey, run_underlying hd, h3, Result.andThen]

/-- the same at nil. -/
theorem look_nil (hK : Keys P kt enc) {T et : TypeId} {z : Value} {w : World} (hT : P.underlying T = some (.map kt et)) (hz : (P.info? et).map (fun i => i.zero) = some (some z)) (k : K) (c : Bool) :
    (Instr.lookup T (.map none) (enc k) c).run P w = .ok (if c then .tuple #[z, .bool false] else z) w := by
  obtain ⟨d, hd, hs, hc⟩ := hK.ex
  obtain ⟨i0, hi, hzz⟩ := Option.map_eq_some_iff.1 hz
  cases c <;> simp [Instr.lookup, run_underlying hT, hc, Instr.findKey, run_underlying hd, Instr.findNow, zeroValue, typeInfo, hi, hzz, Result.andThen]

/-- 'm[k] = v': one block turns. -/
theorem store_map (hK : Keys P kt enc) {T et : TypeId} {w : World} {r : Nat} {m : List (K × Value)} (hT : P.underlying T = some (.map kt et)) (h : MapIs enc w r m) (k : K) (v : Value) :
    ∃ es clock, (Instr.mapUpdate T (.map (some r)) (enc k) v).run P w = .ok () (ChangeMaps.setBlock w r (.map es clock)) ∧ ents enc es.toList (upd m k v) := by
  obtain ⟨es, clock, hh, he⟩ := h
  obtain ⟨d, hd, hs, hc⟩ := hK.ex
  have hf := findNow_get hs k es.toList m 0 he
  have hg := MapKept.run_getObj_map (P := P) hh
  cases hgk : get m k with
  | none =>
    have := hf.1 hgk
    refine ⟨es.push { key := enc k, val := v, born := clock }, clock + 1, ?_, ?_⟩
    · simp [Instr.mapUpdate, run_underlying hT, hg, hc, Instr.findKey, run_underlying hd, this, MapKept.run_setObj_map _ hh, Result.andThen, ChangeMaps.setBlock]
    · have hu : upd m k v = m ++ [(k, v)] := by
        clear hf he this hh hg
        induction m with
        | nil => rfl
        | cons p t ih =>
          obtain ⟨a, b⟩ := p
          simp only [get] at hgk
          by_cases hak : a = k
          · simp [hak] at hgk
          · simp only [hak, if_false] at hgk
            simp [upd, hak, ih hgk]
      rw [hu]
      simp only [ents] at he ⊢
      simp [he]
  | some u =>
    obtain ⟨j, e, h1, h2, h3, h4⟩ := hf.2 u hgk
    refine ⟨es.modify j (fun e => { e with key := enc k, val := v }), clock, ?_, ?_⟩
    · have hj : (es[j]?).map (·.key) = some (enc k) := by
        have : es[j]? = some e := by simpa using h1
        rw [this]; simp [h2]
      simp [Instr.mapUpdate, run_underlying hT, hg, hc, Instr.findKey, run_underlying hd, h3, hj, Instr.keyThatStays, hK.stays, MapKept.run_setObj_map _ hh, Result.andThen, ChangeMaps.setBlock]
    · have := h4 v
      simpa using this

/-- 'len(m)'. -/
theorem len_map {T et : TypeId} {ty : TypeId} {w : World} {r : Nat} {m : List (K × Value)} (hT : P.underlying T = some (.map kt et)) (h : MapIs enc w r m) :
    (Builtin.len_ #[T] ty #[.map (some r)]).run P w = .ok (.int .i64 m.length) w := by
  obtain ⟨es, clock, hh, he⟩ := h
  have hg := MapKept.run_getObj_map (P := P) hh
  have hl : es.size = m.length := by
    have := congrArg List.length he
    simpa using this
  simp [Builtin.len_, run_underlying hT, hg, Result.andThen, goInt, hl]
theorem len_nil {T et : TypeId} {ty : TypeId} {w : World} (hT : P.underlying T = some (.map kt et)) :
    (Builtin.len_ #[T] ty #[.map none]).run P w = .ok (.int .i64 0) w := by
  simp [Builtin.len_, run_underlying hT, goInt]
end
end Go.Proofs.Qxb6602244a
