/-
  The contracts of math/bits.Mul64 (function 19) and '(Resource).hash' (function 18).
-/
import Derived.Test.YbulkbrnoRows
import Derived.WalkKit
import Derived.ProofKit
import Derived.OpenShut
import Derived.Shelf.Bits.Mul64
import Derived.Deep.RegionHeld3
namespace Go.Proofs.Ybulkbrno.hash
open Go.ChangeShapes Go.WideShapes Go.ChangeAt Go.RowKit Go.Lib

set_option maxHeartbeats 1000000 in
theorem mul64N (x y : Nat) (hx : x < 18446744073709551616) (hy : y < 18446744073709551616) (w : World) :
    Calls Yba.prog 19 #[.int .u64 x, .int .u64 y] w fun e w' => e = .returned (.tuple #[.int .u64 ((x * y / 18446744073709551616 : Nat) : Int), .int .u64 ((x * y % 18446744073709551616 : Nat) : Int)]) ∧ w' = w := by
  obtain ⟨bd, bt, bw, hhi⟩ := Lib.mul64_hi x y hx hy
  have ba := Lib.half_mul_le (a := x / 4294967296) (b := y / 4294967296) (by omega) (by omega)
  have bb := Lib.half_mul_le (a := x / 4294967296) (b := y % 4294967296) (by omega) (by omega)
  have bc := Lib.half_mul_le (a := x % 4294967296) (b := y / 4294967296) (by omega) (by omega)
  have ba' : x / 4294967296 * (y / 4294967296) < 18446744073709551616 := by omega
  have bb' : x / 4294967296 * (y % 4294967296) < 18446744073709551616 := by omega
  have bc' : x % 4294967296 * (y / 4294967296) < 18446744073709551616 := by omega
  have bh1 : x / 4294967296 * (y / 4294967296) + (x / 4294967296 * (y % 4294967296) + x % 4294967296 * (y % 4294967296) / 4294967296) / 4294967296 < 18446744073709551616 := by omega
  have bh : x / 4294967296 * (y / 4294967296) + (x / 4294967296 * (y % 4294967296) + x % 4294967296 * (y % 4294967296) / 4294967296) / 4294967296 + ((x / 4294967296 * (y % 4294967296) + x % 4294967296 * (y % 4294967296) / 4294967296) % 4294967296 + x % 4294967296 * (y / 4294967296)) / 4294967296 < 18446744073709551616 := by omega
  go_enter Yba.func19, Yba.ntmps19
  go_wp2
  simp only [Mul64.maskN x hx, Mul64.maskN y hy, Mul64.divN, Mul64.mulN, Mul64.addN, Mul64.wrapN _ bd, Mul64.wrapN _ bb', Mul64.wrapN _ bt, Mul64.maskN _ bt, Mul64.wrapN _ bc', Mul64.wrapN _ bw, Mul64.wrapN _ ba', Mul64.wrapN _ bh1, Mul64.wrapN _ bh, Mul64.wrapM (x * y)]
  rw [hhi]
  go_ret2
  exact ⟨rfl, rfl⟩

/-- the high and the low word of a product -/
def hiW (x y : Int) : Int := ((x.toNat * y.toNat / 18446744073709551616 : Nat) : Int)
def loW (x y : Int) : Int := ((x.toNat * y.toNat % 18446744073709551616 : Nat) : Int)

theorem mul64 (x y : Int) (hx : (Lit.int .u64 x).wf = true) (hy : (Lit.int .u64 y).wf = true) (w : World) :
    Calls Yba.prog 19 #[.int .u64 x, .int .u64 y] w fun e w' => e = .returned (.tuple #[.int .u64 (hiW x y), .int .u64 (loW x y)]) ∧ w' = w := by
  have bx := bounds_u64 hx
  have by' := bounds_u64 hy
  obtain ⟨a, rfl⟩ := Int.eq_ofNat_of_zero_le bx.1
  obtain ⟨b, rfl⟩ := Int.eq_ofNat_of_zero_le by'.1
  exact mul64N a b (by omega) (by omega) w

/-- the hash, as the Go text reckons it -/
def hashI (s0 s1 k t y : Int) : Int :=
  let a := bits .xor .u64 y s0
  let b := bits .xor .u64 (bits .or .u64 (t * 256) k) s1
  bits .xor .u64 (hiW a b) (loW a b)

theorem hash_any (s0 s1 k t y : Int) (hk : 0 ≤ k ∧ k ≤ 255) (ht : 0 ≤ t ∧ t ≤ 4294967295) (w : World) :
    Calls Yba.prog 18 #[.agg #[.int .u8 k, .int .u32 t, .int .u64 y], .agg #[.int .u64 s0, .int .u64 s1]] w fun e w' =>
      e = .returned (.int .u64 (hashI s0 s1 k t y)) ∧ w' = (w.alloc (.cells #[.int .u8 k, .int .u32 t, .int .u64 y] 35)).alloc (.cells #[.int .u64 s0, .int .u64 s1] 28) := by
  go_enter Yba.func18, Yba.ntmps18
  go_wp2_with fail
  refine (mul64 _ _ (wf_bits _ _ _ _) (wf_bits _ _ _ _) _).mono ?_
  rintro e w' ⟨rfl, rfl⟩
  go_wp2
  go_ret
  exact ⟨rfl, rfl⟩

theorem hash_wf (s0 s1 k t y : Int) : 0 ≤ hashI s0 s1 k t y ∧ hashI s0 s1 k t y ≤ 18446744073709551615 := by unfold hashI; exact bounds_u64 (wf_bits _ _ _ _)
end Go.Proofs.Ybulkbrno.hash
