/-
  '==' and '!=' of two head pointers (type 29).
-/
import Derived.Test.YbulkbrnoState
import Derived.LaidEqlPtr
namespace Go.Proofs.Ybulkbrno.ptrs
open Go.ChangeShapes Go.WideShapes Go.ChangeAt Go.RowKit plain mem

theorem info39 : (Yba.prog.info? 39).map (fun i => i.size) = some 5 := by kernel_rfl

theorem equal_same (a : Addr) (w : World) (d : Nat) : (Op.equalIn (d + 1) 29 (.pointer (some a)) (.pointer (some a))).run Yba.prog w = .ok true w := by
  obtain ⟨i, hi, _⟩ := Option.map_eq_some_iff.1 info39
  simp [Op.equalIn, run_underlying Yba.underlying29, sizeOf, typeInfo, hi, run_sameAddr_same]

theorem equal_other (a b : Nat) (w : World) {ca cb : Array Value} {ta tb : TypeId} (hne : a ≠ b) (ha : w.heap[a]? = some (.cells ca ta)) (hb : w.heap[b]? = some (.cells cb tb)) (d : Nat) :
    (Op.equalIn (d + 1) 29 (.pointer (some ⟨a, 0, none⟩)) (.pointer (some ⟨b, 0, none⟩))).run Yba.prog w = .ok false w := by
  obtain ⟨i, hi, hs⟩ := Option.map_eq_some_iff.1 info39
  have hne' : (⟨a, 0, none⟩ : Addr) ≠ ⟨b, 0, none⟩ := by intro h; cases h; exact hne rfl
  simp [Op.equalIn, run_underlying Yba.underlying29, sizeOf, typeInfo, hi, hs, run_sameAddr_other w hne' ha hb]

theorem eql_same (a : Addr) (w : World) : (binOp .eql 29 (.pointer (some a)) (.pointer (some a))).run Yba.prog w = .ok (.bool true) w := by
  simp only [binOp]
  simp [Op.equal, Op.maxDepth, equal_same a w 9999]
theorem neq_same (a : Addr) (w : World) : (binOp .neq 29 (.pointer (some a)) (.pointer (some a))).run Yba.prog w = .ok (.bool false) w := by
  simp only [binOp]
  simp [Op.equal, Op.maxDepth, equal_same a w 9999]
theorem eql_other (a b : Nat) (w : World) {ca cb : Array Value} {ta tb : TypeId} (hne : a ≠ b) (ha : w.heap[a]? = some (.cells ca ta)) (hb : w.heap[b]? = some (.cells cb tb)) :
    (binOp .eql 29 (.pointer (some ⟨a, 0, none⟩)) (.pointer (some ⟨b, 0, none⟩))).run Yba.prog w = .ok (.bool false) w := by
  simp only [binOp]
  simp [Op.equal, Op.maxDepth, equal_other a b w hne ha hb 9999]
end Go.Proofs.Ybulkbrno.ptrs
