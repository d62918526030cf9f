/-
  '==' AND '!=' BETWEEN TWO POINTERS THAT ARE NOT NIL: laws over any program.
-/
import Derived.LaidEql
namespace Go.Proofs.Qxb6602244a
section
variable {P : Program} (w : World)

theorem run_equalIn_ptr_same (d : Nat) {t te : TypeId} {j : TypeInfo} (a : Addr) (hp : P.underlying t = some (.pointer te)) (hte : P.info? te = some j) :
    (Op.equalIn (d + 1) t (.pointer (some a)) (.pointer (some a))).run P w = .ok true w := by
  simp [Op.equalIn, run_underlying hp, typeInfo, sizeOf, run_sameAddr_same, hte]
theorem run_equalIn_ptr_other (d : Nat) {t te : TypeId} {j : TypeInfo} {a b : Addr} {ca cb : Array Value} {ta tb : TypeId} (hp : P.underlying t = some (.pointer te)) (hte : P.info? te = some j) (hsz : j.size ≠ 0)
    (hne : a ≠ b) (ha : w.heap[a.block]? = some (.cells ca ta (0, 0))) (hb : w.heap[b.block]? = some (.cells cb tb (0, 0))) :
    (Op.equalIn (d + 1) t (.pointer (some a)) (.pointer (some b))).run P w = .ok false w := by
  simp [Op.equalIn, run_underlying hp, typeInfo, sizeOf, hte, hsz, run_sameAddr_other w hne ha hb]

theorem run_eql_ptr_same {t te : TypeId} {j : TypeInfo} (a : Addr) (hp : P.underlying t = some (.pointer te)) (hte : P.info? te = some j) :
    (binOp .eql t (.pointer (some a)) (.pointer (some a))).run P w = .ok (.bool true) w := by
  simp only [binOp]
  simp [Op.equal, Op.maxDepth, run_equalIn_ptr_same w 9999 a hp hte]
theorem run_neq_ptr_same {t te : TypeId} {j : TypeInfo} (a : Addr) (hp : P.underlying t = some (.pointer te)) (hte : P.info? te = some j) :
    (binOp .neq t (.pointer (some a)) (.pointer (some a))).run P w = .ok (.bool false) w := by
  simp only [binOp]
  simp [Op.equal, Op.maxDepth, run_equalIn_ptr_same w 9999 a hp hte]
theorem run_eql_ptr_other {t te : TypeId} {j : TypeInfo} {a b : Addr} {ca cb : Array Value} {ta tb : TypeId} (hp : P.underlying t = some (.pointer te)) (hte : P.info? te = some j) (hsz : j.size ≠ 0)
    (hne : a ≠ b) (ha : w.heap[a.block]? = some (.cells ca ta (0, 0))) (hb : w.heap[b.block]? = some (.cells cb tb (0, 0))) :
    (binOp .eql t (.pointer (some a)) (.pointer (some b))).run P w = .ok (.bool false) w := by
  simp only [binOp]
  simp [Op.equal, Op.maxDepth, run_equalIn_ptr_other w 9999 hp hte hsz hne ha hb]
theorem run_neq_ptr_other {t te : TypeId} {j : TypeInfo} {a b : Addr} {ca cb : Array Value} {ta tb : TypeId} (hp : P.underlying t = some (.pointer te)) (hte : P.info? te = some j) (hsz : j.size ≠ 0)
    (hne : a ≠ b) (ha : w.heap[a.block]? = some (.cells ca ta (0, 0))) (hb : w.heap[b.block]? = some (.cells cb tb (0, 0))) :
    (binOp .neq t (.pointer (some a)) (.pointer (some b))).run P w = .ok (.bool true) w := by
  simp only [binOp]
  simp [Op.equal, Op.maxDepth, run_equalIn_ptr_other w 9999 hp hte hsz hne ha hb]
end
end Go.Proofs.Qxb6602244a
