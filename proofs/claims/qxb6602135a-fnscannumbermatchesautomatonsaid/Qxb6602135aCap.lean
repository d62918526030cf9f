/-
  THE WALK OF cappedDecimalQb1 (17).
-/
import Derived.Test.Qxb6602135aSkip
import Derived.Test.Qxb6602135aScanPlain
import Derived.WalkKit
import Derived.ProofKit
namespace Go.Proofs.Qxb6602135a
open Go.ChangeShapes Go.WideShapes Go.ChangeAt Go.RowKit
open Plain (z0 vals cap7 dg)
set_option linter.unusedVariables false

/-- a byte as a value. -/
def B8 (c : UInt8) : Value := .int .u8 c.toNat

theorem ne48 {c : UInt8} (h : ¬ c = 48) : ((c.toNat : Int) == 48) = false := by
  rw [beq_eq_false_iff_ne]
  intro e
  apply h
  have h2 : c.toNat = (48 : UInt8).toNat := by show c.toNat = 48; omega
  exact UInt8.toNat_inj.1 h2
theorem z0_drop (ds : List UInt8) (k : Nat) (h : k < ds.length) (hc : ds[k] = 48) : z0 (ds.drop k) = z0 (ds.drop (k + 1)) + 1 := by
  rw [List.drop_eq_getElem_cons h]; simp [z0, hc]
theorem z0_stop (ds : List UInt8) (k : Nat) (h : k < ds.length) (hc : ¬ ds[k] = 48) : z0 (ds.drop k) = 0 := by
  rw [List.drop_eq_getElem_cons h]; simp [z0, hc]
theorem vals_snoc (l : List UInt8) (c : UInt8) : vals 0 (l ++ [c]) = vals 0 l * 10 + (c.toNat - 48) := by simp [vals]
theorem take_drop_snoc (ds : List UInt8) (a k : Nat) (h : k < ds.length) (ha : a ≤ k) : (ds.drop a).take (k + 1 - a) = (ds.drop a).take (k - a) ++ [ds[k]] := by
  rw [show k + 1 - a = (k - a) + 1 from by omega, List.take_succ_eq_append_getElem (by simp; omega)]
  congr 2
  simp only [List.getElem_drop]
  congr 1; omega

theorem vals_bd (ds : List UInt8) (k m : Nat) (hd : ∀ c ∈ ds, dg c = true) (hm : m ≤ 7) : vals 0 ((ds.drop k).take m) < 10000000 := by
  have h := Plain.vals_lt ((ds.drop k).take m) 0 (fun c hc => hd c (List.mem_of_mem_drop (List.mem_of_mem_take hc)))
  have h2 : 10 ^ ((ds.drop k).take m).length ≤ 10 ^ 7 := Nat.pow_le_pow_right (by omega) (by simp; omega)
  omega
theorem dg_bd (ds : List UInt8) (q : Nat) (h : q < ds.length) (hd : ∀ c ∈ ds, dg c = true) : (48 : Int) ≤ (ds[q].toNat : Int) ∧ (ds[q].toNat : Int) ≤ 57 :=
  (Plain.dg_iff _).1 (hd _ (List.getElem_mem h))

set_option maxHeartbeats 800000 in
theorem cap_some (ds : List UInt8) (g cap : Nat) (lim : Nat) (w : World) (hd : ∀ c ∈ ds, dg c = true) (hn : ds.length ≤ 1048576) (hl : lim ≤ 2000000)
    (hcell : ∀ k, (h : k < ds.length) → w.cell? ⟨g, k, none⟩ = some (.int .u8 ds[k].toNat)) :
    Calls Try.prog 17 #[.slice (some ⟨g, 0, none⟩) ds.length cap, .int .i64 lim] w fun e w' => e = .returned (.int .i64 (cap7 lim ds)) ∧ w' = w := by
  have HC : Hid (∀ k, (h : k < ds.length) → w.cell? ⟨g, k, none⟩ = some (.int .u8 ds[k].toNat)) := hcell
  clear hcell
  have HD : Hid (∀ c ∈ ds, dg c = true) := hd
  clear hd
  go_enter Try.func17, Try.ntmps17
  go_wp2
  go_loop [5] (fun v => ∃ k : Nat, v = .int .i64 k ∧ k ≤ ds.length ∧ z0 ds = k + z0 (ds.drop k)) (fun v => ds.length - (intOf v).toNat)
  case atStart => exact ⟨0, rfl, by omega, by simp⟩
  case round =>
    obtain ⟨k, rfl, hk, hz⟩ := hrel
    have HZ : Hid (z0 ds = k + z0 (ds.drop k)) := hz
    clear hz
    by_cases hhit : ∃ h : k < ds.length, ds[k] = 48
    · obtain ⟨hlt, h48⟩ := hhit
      have hc := HC.out k hlt
      have h48' : ((ds[k].toNat : Int) == 48) = true := by rw [h48]; decide
      have HZ2 : Hid (z0 ds = k + 1 + z0 (ds.drop (k + 1))) := by rw [HZ.out, z0_drop ds k hlt h48]; show _ = _; omega
      clear h48
      go_wp2
      go_round
      case rel => exact ⟨k + 1, by go_num, by omega, HZ2.out⟩
      case measure => simp [intOf]; omega
    · have HZ2 : Hid (z0 ds = k) := by
        show _ = _
        rw [HZ.out]
        by_cases hlt : k < ds.length
        · rw [z0_stop ds k hlt (fun e => hhit ⟨hlt, e⟩)]; rfl
        · rw [List.drop_eq_nil_of_le (by omega)]; rfl
      by_cases hlt : k < ds.length
      case' pos =>
        have hc := HC.out k hlt
        have h48' : ((ds[k].toNat : Int) == 48) = false := ne48 (fun e => hhit ⟨hlt, e⟩)
      all_goals
        clear hhit HZ
        by_cases h7 : 7 < ds.length - k
        · first
            | (exfalso; omega)
            | (go_wp2
               go_ret
               exact ⟨ret_int (by unfold cap7; rw [HZ2.out, if_pos h7]), rfl⟩)
        · go_wp2
          go_loop [6, 7] (fun v j => ∃ q : Nat, k ≤ q ∧ q ≤ ds.length ∧ j = .int .i64 q ∧ v = .int .i64 (vals 0 ((ds.drop k).take (q - k)))) (fun _ j => ds.length - (intOf j).toNat)
          case atStart => exact ⟨k, by omega, by omega, rfl, by simp [vals]⟩
          case round =>
            obtain ⟨q, hkq, hq, rfl, rfl⟩ := hrel
            have hbd := vals_bd ds k (q - k) HD.out (by omega)
            by_cases hql : q < ds.length
            · have hcq := HC.out q hql
              have hdq := dg_bd ds q hql HD.out
              have HV : Hid (vals 0 ((ds.drop k).take (q + 1 - k)) = vals 0 ((ds.drop k).take (q - k)) * 10 + (ds[q].toNat - 48)) := by
                rw [take_drop_snoc ds k q hql hkq]; exact vals_snoc _ _
              go_wp2
              go_round
              case rel => exact ⟨q + 1, by omega, by omega, by go_num, by rw [HV.out]; go_num⟩
              case measure => simp [intOf]; omega
            · have HQ : Hid (vals 0 ((ds.drop k).take (q - k)) = vals 0 (ds.drop k)) := by
                rw [List.take_of_length_le (by simp; omega)]; rfl
              go_wp2
              all_goals
                go_ret
                exact ⟨ret_int (by unfold cap7; rw [HZ2.out, if_neg h7, ← HQ.out]; omega), rfl⟩

set_option maxHeartbeats 800000 in
theorem cap_nil (lim : Nat) (w : World) (hl : lim ≤ 2000000) :
    Calls Try.prog 17 #[.slice none 0 0, .int .i64 lim] w fun e w' => e = .returned (.int .i64 (cap7 lim [])) ∧ w' = w := by
  go_enter Try.func17, Try.ntmps17
  go_wp2
  refine wp_loop_rounds 1 ?_
  rw [rounds_succ]
  go_wp2
  refine wp_loop_rounds 1 ?_
  rw [rounds_succ]
  go_wp2
  go_ret
  exact ⟨rfl, rfl⟩

/-- an exponent's digits, owned by the call: nil or a row. -/
theorem cap_own (ds : List UInt8) (base : Nat) (v : Value) (lim : Nat) (w : World) (hd : ∀ c ∈ ds, dg c = true) (hn : ds.length ≤ 1048576) (hl : lim ≤ 2000000)
    (hown : w.ownsRow base 5 1 v ds.length (ds.map B8)) :
    Calls Try.prog 17 #[v, .int .i64 lim] w fun e w' => e = .returned (.int .i64 (cap7 lim ds)) ∧ w' = w := by
  rcases hown.2 with ⟨hv, h0⟩ | ⟨g, cap, cur, hv, r⟩
  · obtain rfl := List.eq_nil_of_length_eq_zero h0
    subst hv
    exact cap_nil lim w hl
  · have hc := hown.cells (g := g) (by rw [hv]; rfl)
    subst hv
    refine cap_some ds g cap lim w hd hn hl ?_
    intro k hk
    have h2 := hc k (B8 ds[k]) (by rw [List.getElem?_map, List.getElem?_eq_getElem hk]; rfl)
    have e : (⟨g, 0, none⟩ : Addr).add k = ⟨g, k, none⟩ := by unfold Addr.add; split <;> simp_all
    rw [e] at h2
    exact h2

theorem cap_ownI (ds : List UInt8) (base : Nat) (v : Value) (lim : Nat) (L : Int) (w : World) (hd : ∀ c ∈ ds, dg c = true) (hn : ds.length ≤ 1048576) (hl : lim ≤ 2000000) (hL : L = (lim : Int))
    (hown : w.ownsRow base 5 1 v ds.length (ds.map B8)) :
    Calls Try.prog 17 #[v, .int .i64 L] w fun e w' => e = .returned (.int .i64 (cap7 lim ds)) ∧ w' = w := by
  subst hL
  exact cap_own ds base v lim w hd hn hl hown
end Go.Proofs.Qxb6602135a
