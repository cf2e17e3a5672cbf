/-
  The contract of '(*lockTable).home' (function 17).
-/
import Derived.Test.YbulkbrnoMem
namespace Go.Proofs.Ybulkbrno.home
open Go.ChangeShapes Go.WideShapes Go.ChangeAt Go.RowKit plain mem

theorem home_core (w : World) (T A N : Nat) (s0 s1 k t y v : Int) (hT : T < w.heap.size) (c0 : w.cell? ⟨T, 0, none⟩ = some (.slice (some ⟨A, 0, none⟩) N N))
    (c2 : w.cell? ⟨T, 2, none⟩ = some (.int .u64 s0)) (c3 : w.cell? ⟨T, 3, none⟩ = some (.int .u64 s1)) (hk : 0 ≤ k ∧ k ≤ 255) (ht : 0 ≤ t ∧ t ≤ 4294967295)
    (n1 : (1 : Int) ≤ (N : Int)) (n2 : (N : Int) ≤ 1099511627776) (hv : bits .and .u64 (hash.hashI s0 s1 k t y) ((N : Int) - 1) = v) (v1 : 0 ≤ v) (v2 : v ≤ 1099511627776) :
    Calls Yba.prog 17 #[.pointer (some ⟨T, 0, none⟩), .agg #[.int .u8 k, .int .u32 t, .int .u64 y]] w fun e w' => e = .returned (.int .i64 v) ∧ Fr Nil w w' := by
  have hT1 : T < w.heap.size + 1 := by omega
  have hT2 : T < w.heap.size + 1 + 1 := by omega
  go_enter Yba.func17, Yba.ntmps17
  go_wp2
  go_region_held3 (fun w' => w'.cell? ⟨w.heap.size, 0, none⟩ = some (.int .u8 k) ∧ w'.cell? ⟨w.heap.size, 1, none⟩ = some (.int .u32 t) ∧ w'.cell? ⟨w.heap.size, 2, none⟩ = some (.int .u64 y) ∧ w'.cell? ⟨T, 0, none⟩ = some (.slice (some ⟨A, 0, none⟩) N N) ∧ w'.cell? ⟨T, 2, none⟩ = some (.int .u64 s0) ∧ w'.cell? ⟨T, 3, none⟩ = some (.int .u64 s1)) (simp [go_sem, World.cell?_alloc_past, c0, c2, c3, hT, hT1, hT2])
    (first | (go_at_call 18; refine (hash.hash_any s0 s1 k t y hk ht _).mono ?_; rintro e w' ⟨rfl, rfl⟩))
  have e1 : IntKind.i64.wrap ((N : Int) - 1) = (N : Int) - 1 := by rw [IntKind.wrap_i64]; omega
  have e2 : IntKind.u64.wrap ((N : Int) - 1) = (N : Int) - 1 := by rw [IntKind.wrap_u64]; omega
  have e3 : IntKind.i64.wrap v = v := by rw [IntKind.wrap_i64]; omega
  simp only [e1, e2, hv, e3]
  go_wp2
  go_ret
  exact ⟨rfl, ((((Fr.refl _ _).alloc _).alloc _).alloc _).drew⟩

/-- the mask of a power of two is the rest -/
theorem mask_mod (h p : Nat) (hh : h < 18446744073709551616) (hp : p ≤ 40) : bits .and .u64 (h : Int) (((2 ^ p : Nat) : Int) - 1) = ((h % 2 ^ p : Nat) : Int) := by
  have hlt : 2 ^ p ≤ 2 ^ 40 := Nat.pow_le_pow_right (by decide) hp
  have hpos : 0 < 2 ^ p := Nat.two_pow_pos p
  have e : ((2 ^ p : Nat) : Int) - 1 = ((2 ^ p - 1 : Nat) : Int) := by omega
  rw [e, bits_and_u64_nat h (2 ^ p - 1) hh (by omega), Nat.and_two_pow_sub_one_eq_mod]

theorem home_any (w : World) (T A : Nat) (S : List (Option Ent)) (n s0 s1 : Int) (p0 p1 : Value) (sp : Int) (ht : Tab w T A S n s0 s1 p0 p1 sp) (r : Res) (hr : Rok r) (p : Nat) (hp : S.length = 2 ^ p) (hp' : p ≤ 40) :
    Calls Yba.prog 17 #[.pointer (some ⟨T, 0, none⟩), .agg #[.int .u8 r.1, .int .u32 r.2.1, .int .u64 r.2.2]] w fun e w' => e = .returned (.int .i64 ((hN s0 s1 r % S.length : Nat) : Int)) ∧ Fr Nil w w' := by
  have hlt : 2 ^ p ≤ 2 ^ 40 := Nat.pow_le_pow_right (by decide) hp'
  have hpos : 0 < 2 ^ p := Nat.two_pow_pos p
  have hw := hash.hash_wf s0 s1 r.1 r.2.1 r.2.2
  have hm : hN s0 s1 r % S.length < S.length := Nat.mod_lt _ (by omega)
  refine home_core w T A S.length s0 s1 r.1 r.2.1 r.2.2 _ (blk_lt ht.tab) (by rw [blk_cell ht.tab]; rfl) (by rw [blk_cell ht.tab]; rfl) (by rw [blk_cell ht.tab]; rfl) hr.1 hr.2 (by omega) (by omega) ?_ (by omega) (by omega)
  have e : hash.hashI s0 s1 r.1 r.2.1 r.2.2 = ((hN s0 s1 r : Nat) : Int) := by unfold hN; omega
  rw [e, hp]
  exact mask_mod _ _ (by unfold hN; omega) hp'
end Go.Proofs.Ybulkbrno.home
