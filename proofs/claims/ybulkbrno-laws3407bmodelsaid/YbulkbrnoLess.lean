/-
  The contract of '(Resource).less' (function 10), and the plain order on (kind, table, key).
-/
import Derived.Test.YbulkbrnoRows
import Derived.WalkKit
import Derived.ProofKit
import Derived.OpenShut
namespace Go.Proofs.Ybulkbrno.less
open Go.ChangeShapes Go.WideShapes Go.ChangeAt Go.RowKit

/-- the lexicographic order on (kind, table, key) -/
def lessB (k t y k' t' y' : Int) : Bool := if k = k' then (if t = t' then decide (y < y') else decide (t < t')) else decide (k < k')

theorem less_any (k t y k' t' y' : Int) (w : World) :
    Calls Yba.prog 10 #[.agg #[.int .u8 k, .int .u32 t, .int .u64 y], .agg #[.int .u8 k', .int .u32 t', .int .u64 y']] w fun e w' =>
      e = .returned (.bool (lessB k t y k' t' y')) ∧ w' = (w.alloc (.cells #[.int .u8 k, .int .u32 t, .int .u64 y] 35)).alloc (.cells #[.int .u8 k', .int .u32 t', .int .u64 y'] 35) := by
  by_cases h1 : k = k'
  · subst h1
    by_cases h2 : t = t'
    · subst h2
      have e : lessB k t y k t y' = decide (y < y') := by simp [lessB]
      rw [e]
      clear e
      go_enter Yba.func10, Yba.ntmps10
      go_wp2
      all_goals
        go_ret
        exact ⟨rfl, rfl⟩
    · have e : lessB k t y k t' y' = decide (t < t') := by simp [lessB, h2]
      rw [e]
      clear e
      go_enter Yba.func10, Yba.ntmps10
      go_wp2
      all_goals
        go_ret
        exact ⟨rfl, rfl⟩
  · have e : lessB k t y k' t' y' = decide (k < k') := by simp [lessB, h1]
    rw [e]
    clear e
    go_enter Yba.func10, Yba.ntmps10
    go_wp2
    all_goals
      go_ret
      exact ⟨rfl, rfl⟩

/-- TxnLock, Table, Row (functions 11, 12, 13) -/
theorem txn_any (y : Int) (w : World) :
    Calls Yba.prog 11 #[.int .u64 y] w fun e w' => e = .returned (.agg #[.int .u8 1, .int .u32 0, .int .u64 y]) ∧ w' = w.alloc (.cells #[.int .u8 1, .int .u32 0, .int .u64 y] 35) := by
  go_enter Yba.func11, Yba.ntmps11
  go_wp2
  exact bodyPost_ret (v := .agg #[.int .u8 1, .int .u32 0, .int .u64 y]) (by simp [results, Yba.results11, go_sem]) rfl ⟨rfl, rfl⟩
theorem table_any (t : Int) (w : World) :
    Calls Yba.prog 12 #[.int .u32 t] w fun e w' => e = .returned (.agg #[.int .u8 2, .int .u32 t, .int .u64 0]) ∧ w' = w.alloc (.cells #[.int .u8 2, .int .u32 t, .int .u64 0] 35) := by
  go_enter Yba.func12, Yba.ntmps12
  go_wp2
  exact bodyPost_ret (v := .agg #[.int .u8 2, .int .u32 t, .int .u64 0]) (by simp [results, Yba.results12, go_sem]) rfl ⟨rfl, rfl⟩
theorem row_any (t y : Int) (w : World) :
    Calls Yba.prog 13 #[.int .u32 t, .int .u64 y] w fun e w' => e = .returned (.agg #[.int .u8 3, .int .u32 t, .int .u64 y]) ∧ w' = w.alloc (.cells #[.int .u8 3, .int .u32 t, .int .u64 y] 35) := by
  go_enter Yba.func13, Yba.ntmps13
  go_wp2
  exact bodyPost_ret (v := .agg #[.int .u8 3, .int .u32 t, .int .u64 y]) (by simp [results, Yba.results13, go_sem]) rfl ⟨rfl, rfl⟩

theorem less_self (k t y : Int) : lessB k t y k t y = false := by simp [lessB]
theorem less_one (k t y k' t' y' : Int) (h : k < k') : lessB k t y k' t' y' = true ∧ lessB k' t' y' k t y = false := by
  unfold lessB; rw [if_neg (by omega), if_neg (by omega)]; simp; omega
theorem less_two (k t y t' y' : Int) (h : t < t') : lessB k t y k t' y' = true ∧ lessB k t' y' k t y = false := by
  unfold lessB; rw [if_pos rfl, if_pos rfl, if_neg (by omega), if_neg (by omega)]; simp; omega
theorem less_three (k t y y' : Int) (h : y < y') : lessB k t y k t y' = true ∧ lessB k t y' k t y = false := by
  unfold lessB; rw [if_pos rfl, if_pos rfl, if_pos rfl, if_pos rfl]; simp; omega
end Go.Proofs.Ybulkbrno.less
