/-
  What the laws LawS3404CSets and LawS3404CLastWins share: '==' of a function value against nil, and the contract of the closure that 'Expires' hands back (function 11).
-/
import Derived.Test.YbulkbrlyRows
import Derived.WalkKit
import Derived.ProofKit
import Derived.OpenShut
import Derived.RegionTactic
namespace Go.Proofs.Ybulkbrly.exp
open Go.ChangeShapes Go.WideShapes Go.ChangeAt Go.RowKit

theorem run_equalIn_func_nil {P : Program} {t : TypeId} {ps rs : Array TypeId} {vd : Bool} (h : P.underlying t = some (.func ps rs vd)) (w : World) (d : Nat) (fn : Fn) (fi ca : Array Value) :
    (Op.equalIn (d + 1) t (.func fn fi ca) .nilFunc).run P w = .ok false w := by
  simp [Op.equalIn, run_underlying h]

/-- 'f == nil', f no nil function value -/
theorem run_eql_func_nil {P : Program} {t : TypeId} {ps rs : Array TypeId} {vd : Bool} (h : P.underlying t = some (.func ps rs vd)) (w : World) (fn : Fn) (fi ca : Array Value) :
    (binOp .eql t (.func fn fi ca) .nilFunc).run P w = .ok (.bool false) w := by
  simp only [binOp]
  simp [Op.equal, Op.maxDepth, run_equalIn_func_nil h w 9999 fn fi ca]

/-- THE CLOSURE: it hands back {true, d}; two new blocks, one draw. -/
theorem once (b : Bool) (l d : Int) (k : Nat) (w : World) (hc : w.cell? ⟨k, 0, none⟩ = some (.int .i64 d)) :
    Calls Yba.prog 11 #[.agg #[.bool b, .int .i64 l], .pointer (some ⟨k, 0, none⟩)] w fun e w' => e = .returned (.agg #[.bool true, .int .i64 d]) ∧ w' = ((w.alloc (.cells #[.bool true, .int .i64 d] 33)).alloc (.cells #[.bool true, .int .i64 d] 33)).drew := by
  have hk : k < w.heap.size := World.block_lt_of_cell? _ _ hc
  go_enter Yba.func11, Yba.ntmps11
  go_wp2
  go_region
  go_wp2
  exact bodyPost_ret (v := .agg #[.bool true, .int .i64 d]) (by simp [results, Yba.results11, go_sem]) rfl ⟨rfl, rfl⟩
end Go.Proofs.Ybulkbrly.exp
