/-
  The contract of '(*tally).add' (function 8): bits.Add64 is the model's own entry. And the plain law of the sum.
-/
import Derived.Test.YbulkbrlyRows
import Derived.WalkKit
import Derived.ProofKit
import Derived.OpenShut
import Derived.Laws.Externs
import Derived.Laws.BitsLemmas
namespace Go.Proofs.Ybulkbrly.tally
open Go.ChangeShapes Go.WideShapes Go.ChangeAt Go.RowKit

theorem add64_0 (x y : Int) (hx : 0 ≤ x) (hy : 0 ≤ y) (w : World) : (callFunc 10 #[.int .u64 x, .int .u64 y, .int .u64 0]).run Yba.prog w =
    .ok (.value (.tuple #[.int .u64 ((x + y) % 18446744073709551616), .int .u64 ((x + y) / 18446744073709551616)])) w := by
  rw [run_callFunc_extern Yba.func10 (by kernel_rfl) (by kernel_rfl) (by kernel_rfl) (e := add64Entry) (by kernel_rfl), run_add64 x y 0 hx hy (by omega) (by omega)]
  simp only [Result.andThen, Int.add_zero]

theorem add_any (hi lo m : Int) (h0 : 0 ≤ hi) (h1 : hi ≤ 1000000) (l0 : 0 ≤ lo) (l1 : lo ≤ 18446744073709551615) (m0 : 0 ≤ m) (m1 : m ≤ 9223372036854775807) (w : World) :
    Calls Yba.prog 8 #[.pointer (some ⟨w.heap.size, 0, none⟩), .int .i64 m] (w.alloc (.cells #[.int .u64 hi, .int .u64 lo] 24)) fun e w' =>
      e = .returned (.tuple #[]) ∧ w' = w.alloc (.cells #[.int .u64 (hi + (lo + m) / 18446744073709551616), .int .u64 ((lo + m) % 18446744073709551616)] 24) := by
  have k0 : 0 ≤ (lo + m) / 18446744073709551616 := by omega
  have k1 : (lo + m) / 18446744073709551616 ≤ 1 := by omega
  go_enter Yba.func8, Yba.ntmps8
  go_wp2_with (simp only [add64_0 lo m l0 m0])
  go_end0
  exact ⟨rfl, rfl⟩

/-! ### THE PLAIN LAW -/
/-- s, capped at the largest int64 -/
def cap (s : Int) : Int := if s ≤ 9223372036854775807 then s else 9223372036854775807
theorem cap_le (s : Int) (h : 0 ≤ s) : 0 ≤ cap s ∧ cap s ≤ 9223372036854775807 := by unfold cap; split <;> omega
theorem cap_hit (s m : Int) (hgt : 9223372036854775807 - cap s < m) : cap (s + m) = 9223372036854775807 := by
  unfold cap at *; split at hgt <;> split <;> omega
theorem cap_miss (s m : Int) (hm : 0 ≤ m) (hgt : m ≤ 9223372036854775807 - cap s) : cap (s + m) = cap s + m := by
  unfold cap at *; split at hgt <;> split <;> omega
theorem hi_step (s m : Int) : s / 18446744073709551616 + (s % 18446744073709551616 + m) / 18446744073709551616 = (s + m) / 18446744073709551616 := by omega
theorem lo_step (s m : Int) : (s % 18446744073709551616 + m) % 18446744073709551616 = (s + m) % 18446744073709551616 := by omega

theorem i64_and_max (n : Int) : bits .and .i64 n 9223372036854775807 = n % 9223372036854775808 := by
  have h127 : (BitVec.ofInt 64 9223372036854775807).toNat = 2 ^ 63 - 1 := by decide
  have key : (BitVec.ofInt 64 n &&& BitVec.ofInt 64 9223372036854775807).toNat = (n % ((2 ^ 64 : Nat) : Int)).toNat % 2 ^ 63 := by
    rw [BitVec.toNat_and, BitVec.toNat_ofInt, h127, Nat.and_two_pow_sub_one_eq_mod]
  show IntKind.i64.wrap ((BitVec.ofInt 64 n &&& BitVec.ofInt 64 9223372036854775807).toNat : Nat) = n % 9223372036854775808
  rw [key, IntKind.wrap_i64]
  omega

/-- the masked number -/
theorem mask (z : Int) : ∃ m, bits .and .i64 z 9223372036854775807 = m ∧ 0 ≤ m ∧ m ≤ 9223372036854775807 :=
  ⟨_, i64_and_max z, by omega, by omega⟩

/-- '(tally).saturated' (function 7) -/
theorem sat_any (hi lo : Int) (h0 : 0 ≤ hi) (h1 : hi ≤ 1000000) (l0 : 0 ≤ lo) (l1 : lo ≤ 18446744073709551615) (w : World) :
    Calls Yba.prog 7 #[.agg #[.int .u64 hi, .int .u64 lo]] w fun e w' =>
      e = .returned (.int .i64 (cap (hi * 18446744073709551616 + lo))) ∧ w' = w.alloc (.cells #[.int .u64 hi, .int .u64 lo] 24) := by
  by_cases hz : hi = 0
  · subst hz
    by_cases hl : lo ≤ 9223372036854775807
    · have e : cap (0 * 18446744073709551616 + lo) = lo := by unfold cap; rw [if_pos (by omega)]; omega
      rw [e]
      clear e
      go_enter Yba.func7, Yba.ntmps7
      go_wp2
      go_ret
      exact ⟨rfl, rfl⟩
    · have e : cap (0 * 18446744073709551616 + lo) = 9223372036854775807 := by unfold cap; rw [if_neg (by omega)]
      rw [e]
      clear e
      go_enter Yba.func7, Yba.ntmps7
      go_wp2
      go_ret
      exact ⟨rfl, rfl⟩
  · have e : cap (hi * 18446744073709551616 + lo) = 9223372036854775807 := by unfold cap; rw [if_neg (by omega)]
    rw [e]
    clear e
    go_enter Yba.func7, Yba.ntmps7
    go_wp2
    go_ret
    exact ⟨rfl, rfl⟩

theorem sat_sum (s : Int) (h0 : 0 ≤ s) (h1 : s ≤ 9444732965739290427392) (w : World) :
    Calls Yba.prog 7 #[.agg #[.int .u64 (s / 18446744073709551616), .int .u64 (s % 18446744073709551616)]] w fun e w' =>
      e = .returned (.int .i64 (cap s)) ∧ w' = w.alloc (.cells #[.int .u64 (s / 18446744073709551616), .int .u64 (s % 18446744073709551616)] 24) := by
  have h := sat_any (s / 18446744073709551616) (s % 18446744073709551616) (by omega) (by omega) (by omega) (by omega) w
  rw [show s / 18446744073709551616 * 18446744073709551616 + s % 18446744073709551616 = s from by omega] at h
  exact h
end Go.Proofs.Ybulkbrly.tally
