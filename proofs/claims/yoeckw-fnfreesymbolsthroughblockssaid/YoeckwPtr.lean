/-
  '==' AND '!=' BETWEEN TWO POINTERS TO A TABLE OR TO A SYMBOL, neither nil.
-/
import Derived.Test.YoeckwBase
import Derived.LaidEqlPtr
namespace Go.Proofs.Yoeckw
open Go.RowKit

theorem size50 : (Eckg.prog.info? 50).map (fun i => i.size) = some 7 := by kernel_rfl
theorem size33 : (Eckg.prog.info? 33).map (fun i => i.size) = some 4 := by kernel_rfl

theorem run_neq_of_eql {tp : TypeId} {x y : Option Addr} {b : Bool} {w : World} (h : (Op.equal tp (.pointer x) (.pointer y)).run Eckg.prog w = .ok b w) : (binOp .neq tp (.pointer x) (.pointer y)).run Eckg.prog w = .ok (.bool (!b)) w := by
  simp only [binOp]
  simp [h]

section
variable (w : World)
theorem equal_same {tp te : TypeId} {j : TypeInfo} (a : Addr) (hp : Eckg.prog.underlying tp = some (.pointer te)) (hte : Eckg.prog.info? te = some j) :
    (Op.equal tp (.pointer (some a)) (.pointer (some a))).run Eckg.prog w = .ok true w := by
  have h : ∀ d : Nat, (Op.equalIn (d + 1) tp (.pointer (some a)) (.pointer (some a))).run Eckg.prog w = .ok true w := fun d => by
    simp [Op.equalIn, run_underlying hp, sizeOf, typeInfo, hte, run_sameAddr_same]
  exact h 9999
theorem neq26 (a : Addr) : (binOp .neq 26 (.pointer (some a)) (.pointer (some a))).run Eckg.prog w = .ok (.bool false) w := by
  obtain ⟨j, hj, _⟩ := Option.map_eq_some_iff.1 size50
  exact run_neq_of_eql (equal_same w a Eckg.underlying26 hj)
theorem neq29 (a : Addr) : (binOp .neq 29 (.pointer (some a)) (.pointer (some a))).run Eckg.prog w = .ok (.bool false) w := by
  obtain ⟨j, hj, _⟩ := Option.map_eq_some_iff.1 size33
  exact run_neq_of_eql (equal_same w a Eckg.underlying29 hj)
theorem eql26_other {a b : Addr} {ca cb : Array Value} {ta tb : TypeId} (hne : a ≠ b) (ha : w.heap[a.block]? = some (.cells ca ta (0, 0))) (hb : w.heap[b.block]? = some (.cells cb tb (0, 0))) :
    (binOp .eql 26 (.pointer (some a)) (.pointer (some b))).run Eckg.prog w = .ok (.bool false) w := by
  obtain ⟨j, hj, hs⟩ := Option.map_eq_some_iff.1 size50
  exact run_eql_ptr_other w Eckg.underlying26 hj (by omega) hne ha hb
end
end Go.Proofs.Yoeckw
