/-
  The contract of 'zzs3407blex' (function 9): the lexicographic order on three words, by a loop.
-/
import Derived.Test.YbulkbrnoLess
import Derived.Deep.QuietTactic
import Derived.BigQuiet
namespace Go.Proofs.Ybulkbrno.lex
open Go.ChangeShapes Go.WideShapes Go.ChangeAt Go.RowKit

theorem rb {a b : Bool} (h : a = b) : Ending.returned (.bool b) = .returned (.bool a) := by rw [h]
theorem dd (w : World) (n m : Nat) : (w.drewN n).drewN m = w.drewN (n + m) := by simp [World.drewN, Nat.add_assoc]
theorem ddd (w : World) (n m l : Nat) : ((w.drewN n).drewN m).drewN l = w.drewN (n + m + l) := by rw [dd, dd, Nat.add_assoc]

theorem lex_any (k t y k' t' y' : Int) (w : World) :
    Calls Yba.prog 9 #[.agg #[.int .u64 k, .int .u64 t, .int .u64 y], .agg #[.int .u64 k', .int .u64 t', .int .u64 y']] w fun e w' =>
      e = .returned (.bool (less.lessB k t y k' t' y')) ∧ ∃ n, w' = ((w.alloc (.cells #[.int .u64 k, .int .u64 t, .int .u64 y] 46)).alloc (.cells #[.int .u64 k', .int .u64 t', .int .u64 y'] 46)).drewN n := by
  go_enter Yba.func9, Yba.ntmps9
  go_wp2
  go_loopw [5] (fun i wr => ∃ j : Nat, j ≤ 3 ∧ i = .int .i64 j ∧ (∃ n, wr = ((w.alloc (.cells #[.int .u64 k, .int .u64 t, .int .u64 y] 46)).alloc (.cells #[.int .u64 k', .int .u64 t', .int .u64 y'] 46)).drewN n) ∧ Hid ((1 ≤ j → k = k') ∧ (2 ≤ j → t = t') ∧ (3 ≤ j → y = y')))
    (fun i _ => 3 - (intOf i).toNat)
  case atStart => exact ⟨0, by omega, rfl, ⟨0, rfl⟩, ⟨by omega, by omega, by omega⟩⟩
  case round =>
    obtain ⟨j, hj, rfl, ⟨n, rfl⟩, H⟩ := hrel
    have : j = 0 ∨ j = 1 ∨ j = 2 ∨ j = 3 := by omega
    rcases this with rfl | rfl | rfl | rfl
    · go_wp2_with fail
      go_quiet (fail)
      go_wp2_with fail
      · go_ret
        exact ⟨rb (less.less_one k t y k' t' y' ‹_›).1, _, dd _ _ _⟩
      · go_quiet (fail)
        go_wp2_with fail
        · go_ret
          exact ⟨rb (less.less_one k' t' y' k t y ‹_›).2, _, ddd _ _ _ _⟩
        · go_roundw
          case rel => exact ⟨1, by omega, rfl, ⟨_, rfl⟩, ⟨by first | omega | (intro _; trivial), by first | omega | (intro _; trivial), by first | omega | (intro _; trivial)⟩⟩
          case measure => simp [intOf]
    · obtain rfl : k = k' := H.out.1 (by omega)
      go_wp2_with fail
      go_quiet (fail)
      go_wp2_with fail
      · go_ret
        exact ⟨rb (less.less_two k t y t' y' ‹_›).1, _, dd _ _ _⟩
      · go_quiet (fail)
        go_wp2_with fail
        · go_ret
          exact ⟨rb (less.less_two k t' y' t y ‹_›).2, _, ddd _ _ _ _⟩
        · go_roundw
          case rel => exact ⟨2, by omega, rfl, ⟨_, rfl⟩, ⟨by first | omega | (intro _; trivial), by first | omega | (intro _; trivial), by first | omega | (intro _; trivial)⟩⟩
          case measure => simp [intOf]
    · obtain rfl : k = k' := H.out.1 (by omega)
      obtain rfl : t = t' := H.out.2.1 (by omega)
      go_wp2_with fail
      go_quiet (fail)
      go_wp2_with fail
      · go_ret
        exact ⟨rb (less.less_three k t y y' ‹_›).1, _, dd _ _ _⟩
      · go_quiet (fail)
        go_wp2_with fail
        · go_ret
          exact ⟨rb (less.less_three k t y' y ‹_›).2, _, ddd _ _ _ _⟩
        · go_roundw
          case rel => exact ⟨3, by omega, rfl, ⟨_, rfl⟩, ⟨by first | omega | (intro _; trivial), by first | omega | (intro _; trivial), by first | omega | (intro _; trivial)⟩⟩
          case measure => simp [intOf]
    · obtain rfl : k = k' := H.out.1 (by omega)
      obtain rfl : t = t' := H.out.2.1 (by omega)
      obtain rfl : y = y' := H.out.2.2 (by omega)
      go_wp2_with fail
      go_ret
      exact ⟨rb (less.less_self k t y), _, rfl⟩
end Go.Proofs.Ybulkbrno.lex
