/-
  The proof of 'Rows.LawS3404ASumSaid': for every slice the law function returns true. The frame is the guide's template; the walk is ours.
-/
import Derived.Test.YbulkbrlyTally
import Derived.WalkKit
import Derived.ProofKit
import Derived.OpenShut
import Derived.ShutString
import Derived.ChangeOld
import Derived.Below
namespace Go.Proofs.Ybulkbrly.lawS3404ASum
open Go.ChangeShapes Go.WideShapes Go.ChangeAt Go.RowKit
open Go.ChangeMaps (open_string shut_string)
set_option linter.unusedVariables false

theorem own : ownKnob Yba.prog.godebug = none := by kernel_rfl
theorem laidOut : laidOutB Yba.prog = true := by kernel_rfl

/-- WHAT THE WALK IS TOLD OF A SLICE OF INTEGERS THAT CAME IN: it is nil; or it leads to a row of 'cap' cells, the numbers 'zs' (the first 'len' are its elements, the rest its spare room), each fitting its kind. -/
def IsRow (k : IntKind) (w : World) (a : Option Addr) (len cap : Nat) (zs : List Int) : Prop :=
  (a = none ∧ len = 0 ∧ cap = 0 ∧ zs = []) ∨
  ∃ x, a = some x ∧ len ≤ cap ∧ cap ≤ maxLen ∧ zs.length = cap ∧ (∀ i, i < zs.length → w.cell? (x.add i) = some (.int k (zs.getD i 0))) ∧ ∀ n ∈ zs, (Lit.int k n).wf = true

/-! ### STEP 1: THE WALK: the Go text returns true, AND WRITES NOTHING THAT WAS THERE: 'Below w.heap.size w w'' (Derived/Below.lean: '.refl', '.alloc', '.drew', '.setCell' at a new block, '.trans'). Open each 'IsRow' by 'rcases' AHEAD of 'go_enter'; part every test ahead of the walk. -/
theorem walk (a0 : Option Addr) (len0 cap0 : Nat) (z0 : List Int) (w : World) (w0 : IsRow .i64 w a0 len0 cap0 z0) :
    Calls Yba.prog 4 #[.slice a0 len0 cap0] w fun e w' => e = .returned (.bool true) ∧ Below w.heap.size w w' := by
  by_cases hbig : 1024 < len0
  · have hbig' : (1024 : Int) < (len0 : Int) := by omega
    go_enter Yba.func4, Yba.ntmps4
    go_wp2
    go_ret
    exact ⟨rfl, Below.refl _ _⟩
  have hlen : (len0 : Int) ≤ 1024 := by omega
  have hcx : ∀ k : Nat, k < len0 → ∃ b off, a0 = some ⟨b, off, none⟩ ∧ b < w.heap.size ∧ ∃ z, w.cell? ⟨b, off + k, none⟩ = some (.int .i64 z) := by
    intro k hk
    rcases w0 with ⟨_, h, _⟩ | ⟨x, rfl, h1, _, h3, h4, _⟩
    · omega
    · obtain ⟨b, off, rfl, hc⟩ := ints_at h4 (show 0 < z0.length by omega)
      have h := hc k (by omega)
      exact ⟨b, off, rfl, World.block_lt_of_cell? _ _ h, _, h⟩
  clear w0 hbig
  go_enter Yba.func4, Yba.ntmps4
  go_wp2
  go_loopw [4, 5] (fun want i wr => ∃ k : Nat, k ≤ len0 ∧ i = .int .i64 k ∧ ∃ s : Int, 0 ≤ s ∧ s ≤ 9223372036854775807 * (k : Int) ∧ wr = w.alloc (.cells #[.int .u64 (s / 18446744073709551616), .int .u64 (s % 18446744073709551616)] 24) ∧ want = .int .i64 (tally.cap s))
    (fun _ i _ => len0 - (intOf i).toNat)
  case atStart => exact ⟨0, Nat.zero_le _, rfl, 0, by omega, by omega, rfl, rfl⟩
  case round =>
    obtain ⟨k, hk, rfl, s, s0, s1, rfl, rfl⟩ := hrel
    have hcap := tally.cap_le s s0
    by_cases hlt : k < len0
    · obtain ⟨b, off, rfl, hb, z, hz⟩ := hcx k hlt
      obtain ⟨m, ez, m0, m1⟩ := tally.mask z
      clear hcx
      have hs := tally.hi_step s m
      have ls := tally.lo_step s m
      by_cases hov : 9223372036854775807 - tally.cap s < m
      · have HS : Hid (tally.cap (s + m) = 9223372036854775807) := tally.cap_hit s m hov
        go_wp2_with (go_at_call 8; refine (tally.add_any _ _ m (by omega) (by omega) (by omega) (by omega) m0 m1 _).mono ?_; rintro e w' ⟨rfl, rfl⟩; simp only [hs, ls])
        go_roundw
        case rel => exact ⟨k + 1, by omega, by go_num, s + m, by omega, by omega, rfl, by rw [HS.out]⟩
        case measure => simp [intOf]; omega
      · have hov' : m ≤ 9223372036854775807 - tally.cap s := by omega
        have HS : Hid (tally.cap (s + m) = tally.cap s + m) := tally.cap_miss s m m0 hov'
        go_wp2_with (go_at_call 8; refine (tally.add_any _ _ m (by omega) (by omega) (by omega) (by omega) m0 m1 _).mono ?_; rintro e w' ⟨rfl, rfl⟩; simp only [hs, ls])
        go_roundw
        case rel => exact ⟨k + 1, by omega, by go_num, s + m, by omega, by omega, rfl, by rw [HS.out]⟩
        case measure => simp [intOf]; omega
    · clear hcx
      go_wp2_with (go_at_call 7; refine (tally.sat_sum s s0 (by omega) _).mono ?_; rintro e w' ⟨rfl, rfl⟩)
      go_ret
      exact ⟨rfl, ((Below.refl _ _).alloc (Nat.le_refl _) _).alloc (by simp) _⟩

/-! ### THE ROW's STEP: WRITTEN OUT: LEAVE IT -/
set_option maxRecDepth 100000 in
theorem lifted (os : Os) (started : os.Started) (H : Type) (enc : TypeId × Value → H) :
    ReturnsInHanded {} Yba.checked os 4 .any (Rows.lawS3404ASumSpec.pre6 enc Yba.prog Yba.f4 Rows.lawS3404ASumRow.domain false) (Rows.lawS3404ASumSpec.post enc Yba.prog Yba.f4 false true false false) := by
  refine returnsInHanded_of_change (C := Yba.checked) own started (by kernel_rfl) Yba.func4
    (ChangeSpec.witness6 (enc := enc) (C := Yba.checked) false ⟨#[], #[.slice none 0 0], []⟩ 8 (by kernel_rfl) (by kernel_rfl) (by kernel_rfl) (by kernel_rfl)) ?_
  intro W base args ds gs before hval0 hW hcnd _
  have hval : ∀ (j : Nat) t v, Yba.f4.params[j]? = some t → args[j]? = some v → Value.okWide Yba.prog W .any base t v := hval0
  have hW' := hW
  obtain ⟨p, q, hA0, hV, rfl, hfz, hnd⟩ := hW
  have hA : DataW.TrodAll enc Yba.prog W 0 (fun _ => true) true Yba.f4.params.toList args.toList ds p := hA0
  rw [Yba.params4] at hA hval
  obtain ⟨v0, vs0, d0, ds0, p0, q0, hargs, rfl, rfl, h0, r0⟩ := trodAll_cons hA
  obtain ⟨rfl, rfl, rfl⟩ := trodAll_nil r0
  obtain rfl : args = #[v0] := by cases args; simp_all
  obtain ⟨rfl, rfl⟩ := trodVars_none hV
  obtain ⟨a0, len0, cap0, rfl⟩ := okWide_slice Yba.underlying28 (hval 0 28 v0 rfl rfl)
  have k0 := h0
  have lt0 : ∀ x ∈ p0, x.block < W.heap.size := by obtain ⟨m, hm⟩ := k0; exact DataW.trod_lt m _ _ _ hm
  obtain ⟨z0, w0⟩ : ∃ zs, IsRow .i64 W a0 len0 cap0 zs := by
    obtain ⟨fuel, hf⟩ := h0
    rcases open_ints Yba.underlying28 Yba.underlying2 (by kernel_rfl) hf with ⟨hcs, _⟩ | ⟨x, l, c, zs, hcs, _, hl, hm, hz, _, hcell, hwz⟩
    · simp [Value.cells] at hcs
      obtain ⟨rfl, rfl, rfl⟩ := hcs
      exact ⟨[], .inl ⟨rfl, rfl, rfl, rfl⟩⟩
    · simp [Value.cells] at hcs
      obtain ⟨rfl, rfl, rfl⟩ := hcs
      exact ⟨zs, .inr ⟨_, rfl, hl, hm, by simpa using hz, hcell, hwz⟩⟩
  clear hA0 hval0
  refine (walk a0 len0 cap0 z0 W w0).mono fun e W' ⟨he, bel⟩ => ?_
  subst he
  exact ⟨_, rfl, _, _, _, [], _, [], hW', trodAll_mk1 (shut_bool Yba.underlying4 _), (trodAll_cons_mk (Below.trod laidOut (by kernel_rfl) (of_decide_eq_true (by kernel_rfl)) k0 bel lt0) trodAll_mk0), rfl, bel.frame _, fun h => by cases h⟩

theorem over : Rows.lawS3404ASumRow.holds Yba.pinned (OpenSpec.ofChange Rows.lawS3404ASumSpec) :=
  OpenClaim.holds_of_wide 4 Yba.f4 rfl rfl rfl rfl rfl rfl rfl ⟨rfl, rfl, rfl, rfl, rfl⟩ rfl rfl rfl rfl rfl (by kernel_rfl) Yba.func4 (by kernel_rfl)
    (of_decide_eq_true (by kernel_rfl)) (by unfold Func.isWrapper; first | (rw [if_pos (by decide +kernel)]; kernel_rfl) | (rw [if_neg (by decide +kernel)]; exact ⟨rfl, rfl⟩))
    (fun os started H enc _ => lifted os started H enc)

/-- ████ THE STATEMENT ████ -/
theorem proved : Rows.LawS3404ASumSaid := over
end Go.Proofs.Ybulkbrly.lawS3404ASum
