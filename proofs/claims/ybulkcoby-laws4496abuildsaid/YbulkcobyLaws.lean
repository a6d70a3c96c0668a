import Derived.LaidEql
import Derived.Lib.IfaceEq
import Derived.Lib.IfaceNeq
namespace Go.Proofs.Ybulkcoby
section
variable {P : Program} (w : World) {t : TypeId} {x y : Array TypeId} {z : Bool}

/-- 'f == nil' and 'f != nil' at a function's type. -/
theorem run_equalIn_func_nil (h : P.underlying t = some (.func x y z)) (fn : Fn) (first cap : Array Value) (d : Nat) :
    (Op.equalIn (d + 1) t (.func fn first cap) .nilFunc).run P w = .ok false w := by
  simp [Op.equalIn, run_underlying h]
theorem run_equalIn_nilfunc_nil (h : P.underlying t = some (.func x y z)) (d : Nat) :
    (Op.equalIn (d + 1) t .nilFunc .nilFunc).run P w = .ok true w := by
  simp [Op.equalIn, run_underlying h]

theorem run_eql_func_nil (h : P.underlying t = some (.func x y z)) (fn : Fn) (first cap : Array Value) :
    (binOp .eql t (.func fn first cap) .nilFunc).run P w = .ok (.bool false) w := by
  simp only [binOp]
  simp [Op.equal, Op.maxDepth, run_equalIn_func_nil w h fn first cap 9999]

theorem run_neq_func_nil (h : P.underlying t = some (.func x y z)) (fn : Fn) (first cap : Array Value) :
    (binOp .neq t (.func fn first cap) .nilFunc).run P w = .ok (.bool true) w := by
  simp only [binOp]
  simp [Op.equal, Op.maxDepth, run_equalIn_func_nil w h fn first cap 9999]

theorem run_eql_nilfunc_nil (h : P.underlying t = some (.func x y z)) :
    (binOp .eql t .nilFunc .nilFunc).run P w = .ok (.bool true) w := by
  simp only [binOp]
  simp [Op.equal, Op.maxDepth, run_equalIn_nilfunc_nil w h 9999]

theorem run_neq_nilfunc_nil (h : P.underlying t = some (.func x y z)) :
    (binOp .neq t .nilFunc .nilFunc).run P w = .ok (.bool false) w := by
  simp only [binOp]
  simp [Op.equal, Op.maxDepth, run_equalIn_nilfunc_nil w h 9999]
end
end Go.Proofs.Ybulkcoby
