/-
  The proof of 'Rows.LawS3407AModelSaid': for every input the law function returns true. The frame is the guide's template, turned to a slice of structs; the walk is ours (YbulkbrnoLaw).
-/
import Derived.Test.YbulkbrnoLaw
import Derived.ChangeOld
import Derived.Below
import Derived.Deep.Slices
import Derived.Deep.Strs
namespace Go.Proofs.Ybulkbrno.lawS3407AModel
open Go.ChangeShapes Go.WideShapes Go.ChangeAt Go.RowKit
set_option linter.unusedVariables false

theorem own : ownKnob Yba.prog.godebug = none := by kernel_rfl
theorem laidOut : laidOutB Yba.prog = true := by kernel_rfl
theorem cells42 : Yba.prog.cellsOf 42 = 3 := by kernel_rfl
theorem cells5 : Yba.prog.cellsOf 5 = 1 := by kernel_rfl

/-- WHAT THE WALK IS TOLD OF THE STEPS: each element's three cells -/
def Steps (w : World) (v : Option Addr) (len : Nat) : Prop :=
  ∀ j, j < len → ∃ b off x0 x1 x2, v = some ⟨b, off, none⟩ ∧ b < w.heap.size ∧ w.cell? ⟨b, off + j * 3, none⟩ = some (.int .u8 x0) ∧ w.cell? ⟨b, off + j * 3 + 1, none⟩ = some (.int .u8 x1) ∧ w.cell? ⟨b, off + j * 3 + 2, none⟩ = some (.int .u8 x2) ∧ (0 ≤ x0 ∧ x0 ≤ 255) ∧ (0 ≤ x1 ∧ x1 ≤ 255) ∧ (0 ≤ x2 ∧ x2 ≤ 255)

set_option maxRecDepth 100000 in
theorem walk (a0 a1 a2 : Int) (v : Option Addr) (len cap : Nat) (w0 : (Lit.int .u64 a0).wf = true) (w1 : (Lit.int .u64 a1).wf = true) (w2 : (Lit.int .u8 a2).wf = true) (w : World) (hs : Steps w v len) :
    Calls Yba.prog 3 #[.int .u64 a0, .int .u64 a1, .int .u8 a2, .slice v len cap] w fun e w' => e = .returned (.bool true) ∧ Below w.heap.size w w' := by
  by_cases hlen : (len : Int) ≤ 1024
  · exact law.walk a0 a1 a2 v len cap w2 w hlen hs
  · have hbig : (1024 : Int) < (len : Int) := by omega
    clear hs hlen
    go_enter Yba.func3, Yba.ntmps3
    go_wp2
    go_ret
    exact ⟨rfl, Below.refl _ _⟩

theorem three {cs : List Value} (h : cs.length = 3) : ∃ c0 c1 c2, cs = [c0, c1, c2] := by
  match cs, h with
  | [c0, c1, c2], _ => exact ⟨c0, c1, c2, rfl⟩

/-- the steps, opened -/
theorem open_steps {H : Type} {enc : TypeId × Value → H} {w : World} {base : Nat} {spare : Nat → Bool} {held : Bool} {fuel : Nat} {v : Option Addr} {len cap : Nat} {x : DataW H × List MemPlace}
    (h : DataW.trod enc Yba.prog w base spare held fuel 23 [.slice v len cap] = some x) : Steps w v len := by
  intro j hj
  rcases Deep.open_slice Yba.underlying23 h with ⟨hcs, _⟩ | ⟨a, l, c, m, n, D, Pl, hcs, _, hl, _, hm, _, hx⟩
  · simp at hcs
    omega
  · simp at hcs
    obtain ⟨rfl, rfl, rfl⟩ := hcs
    simp only [cells42] at hx
    obtain ⟨cs, hc, ht⟩ := hx j (by rw [hm]; split <;> omega)
    obtain ⟨_, hlen, hcell⟩ := World.cells?_some hc
    obtain ⟨y0, y1, y2, n', _, _, h0, h1, h2⟩ := Deep.trod_struct3 Yba.underlying42 ht
    obtain ⟨c0, c1, c2, rfl⟩ := three hlen
    simp only [cells5] at h0 h1 h2
    obtain ⟨x0, e0, _, wx0⟩ := DataW.trod_int Yba.underlying5 h0
    obtain ⟨x1, e1, _, wx1⟩ := DataW.trod_int Yba.underlying5 h1
    obtain ⟨x2, e2, _, wx2⟩ := DataW.trod_int Yba.underlying5 h2
    simp at e0 e1 e2
    subst e0 e1 e2
    have g0 := hcell 0 (by omega)
    have g1 := hcell 1 (by omega)
    have g2 := hcell 2 (by omega)
    simp at g0 g1 g2
    obtain ⟨b, off, spot⟩ := a
    have hspot : spot = none := by
      obtain ⟨cs', hc', _⟩ := hx 0 (by rw [hm]; split <;> omega)
      obtain ⟨_, hlen', hcell'⟩ := World.cells?_some hc'
      have g' := hcell' 0 (by omega)
      rw [List.getElem?_eq_getElem (by omega)] at g'
      simpa [Addr.add] using World.cell?_spot g'
    subst hspot
    simp only [Go.WideShapes.add_plain] at g0 g1 g2
    exact ⟨b, off, x0, x1, x2, rfl, World.block_lt_of_cell? _ _ g0, g0, g1, g2, bounds_u8 wx0, bounds_u8 wx1, bounds_u8 wx2⟩

set_option maxRecDepth 100000 in
theorem lifted (os : Os) (started : os.Started) (H : Type) (enc : TypeId × Value → H) :
    ReturnsInHanded {} Yba.checked os 3 .any (Rows.lawS3407AModelSpec.pre6 enc Yba.prog Yba.f3 Rows.lawS3407AModelRow.domain false) (Rows.lawS3407AModelSpec.post enc Yba.prog Yba.f3 false true false false) := by
  refine returnsInHanded_of_change (C := Yba.checked) own started (by kernel_rfl) Yba.func3
    (ChangeSpec.witness6 (enc := enc) (C := Yba.checked) false ⟨#[], #[.int .u64 0, .int .u64 0, .int .u8 0, .slice none 0 0], []⟩ 8 (by kernel_rfl) (by kernel_rfl) (by kernel_rfl) (by kernel_rfl)) ?_
  intro W base args ds gs before hval0 hW hcnd _
  have hval : ∀ (j : Nat) t v, Yba.f3.params[j]? = some t → args[j]? = some v → Value.okWide Yba.prog W .any base t v := hval0
  have hW' := hW
  obtain ⟨p, q, hA0, hV, rfl, hfz, hnd⟩ := hW
  have hA : DataW.TrodAll enc Yba.prog W 0 (fun _ => true) true Yba.f3.params.toList args.toList ds p := hA0
  rw [Yba.params3] at hA hval
  obtain ⟨v0, vs0, d0, ds0, p0, q0, hargs, rfl, rfl, h0, r0⟩ := trodAll_cons hA
  obtain ⟨v1, vs1, d1, ds1, p1, q1, rfl, rfl, rfl, h1, r1⟩ := trodAll_cons r0
  obtain ⟨v2, vs2, d2, ds2, p2, q2, rfl, rfl, rfl, h2, r2⟩ := trodAll_cons r1
  obtain ⟨v3, vs3, d3, ds3, p3, q3, rfl, rfl, rfl, h3, r3⟩ := trodAll_cons r2
  obtain ⟨rfl, rfl, rfl⟩ := trodAll_nil r3
  obtain rfl : args = #[v0, v1, v2, v3] := by cases args; simp_all
  obtain ⟨rfl, rfl⟩ := trodVars_none hV
  obtain ⟨a0, rfl, rfl, rfl, w0⟩ := open_int Yba.underlying22 (hval 0 22 v0 rfl rfl) h0
  obtain ⟨a1, rfl, rfl, rfl, w1⟩ := open_int Yba.underlying22 (hval 1 22 v1 rfl rfl) h1
  obtain ⟨a2, rfl, rfl, rfl, w2⟩ := open_int Yba.underlying5 (hval 2 5 v2 rfl rfl) h2
  obtain ⟨a3, len3, cap3, rfl⟩ := okWide_slice Yba.underlying23 (hval 3 23 v3 rfl rfl)
  have k3 := h3
  have lt3 : ∀ x ∈ p3, x.block < W.heap.size := by obtain ⟨m, hm⟩ := k3; exact DataW.trod_lt m _ _ _ hm
  have s3 : Steps W a3 len3 := by
    obtain ⟨fuel, hf⟩ := h3
    exact open_steps (cap := cap3) (by simpa [Value.cells] using hf)
  clear hA0 hval0
  refine (walk a0 a1 a2 a3 len3 cap3 w0 w1 w2 W s3).mono fun e W' ⟨he, bel⟩ => ?_
  subst he
  exact ⟨_, rfl, _, _, _, [], _, [], hW', trodAll_mk1 (shut_bool Yba.underlying4 _), (trodAll_cons_mk (shut_int Yba.underlying22 w0) (trodAll_cons_mk (shut_int Yba.underlying22 w1) (trodAll_cons_mk (shut_int Yba.underlying5 w2) (trodAll_cons_mk (Below.trod laidOut (by kernel_rfl) (of_decide_eq_true (by kernel_rfl)) k3 bel lt3) trodAll_mk0)))), rfl, bel.frame _, fun h => by cases h⟩

theorem over : Rows.lawS3407AModelRow.holds Yba.pinned (OpenSpec.ofChange Rows.lawS3407AModelSpec) :=
  OpenClaim.holds_of_wide 3 Yba.f3 rfl rfl rfl rfl rfl rfl rfl ⟨rfl, rfl, rfl, rfl, rfl⟩ rfl rfl rfl rfl rfl (by kernel_rfl) Yba.func3 (by kernel_rfl)
    (of_decide_eq_true (by kernel_rfl)) (by unfold Func.isWrapper; first | (rw [if_pos (by decide +kernel)]; kernel_rfl) | (rw [if_neg (by decide +kernel)]; exact ⟨rfl, rfl⟩))
    (fun os started H enc _ => lifted os started H enc)

/-- ████ THE STATEMENT ████ -/
theorem proved : Rows.LawS3407AModelSaid := over
end Go.Proofs.Ybulkbrno.lawS3407AModel
