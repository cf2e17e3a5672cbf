/-
  The contract of '(*lockTable).resize' (function 16).
-/
import Derived.Test.YbulkbrnoSlot
import Derived.Deep.OwnRows
namespace Go.Proofs.Ybulkbrno.resize
open Go.ChangeShapes Go.WideShapes Go.ChangeAt Go.RowKit plain mem slot

theorem info29 : (Yba.prog.info? 29).map (fun i => (i.zero, i.size, i.bytes)) = some (some (.pointer none), 1, 8) := by kernel_rfl

theorem made_nil (M : Nat) : madeCells #[.pointer none] M = ((List.replicate M (none : Option Ent)).map ptr).toArray := by
  apply Array.ext
  · simp [madeCells]
  · intro i h1 h2
    simp [madeCells, ptr, Nat.mod_one]

/-- a new entry put at a free place -/
theorem put {w : World} {T A : Nat} {S : List (Option Ent)} {n s0 s1 : Int} {p0 p1 : Value} {sp : Int} (h : Tab w T A S n s0 s1 p0 p1 sp) {i b : Nat} {r : Res} (hi : i < S.length) (hn : atS S i = none)
    (hb : w.heap[b]? = some (.cells (headC r) 39)) (hr : Rok r) : Tab (w.setCell ⟨A, i, none⟩ (.pointer (some ⟨b, 0, none⟩))) T A (S.set i (some (b, r))) n s0 s1 p0 p1 sp := by
  refine ⟨?_, ?_, ?_⟩
  · rw [List.length_set]
    exact blk_set_other h.tab h.ne _
  · rw [blk_set h.arr]
    simp [List.map_set, ptr]
  · intro b' r' hm
    rcases List.mem_cons.1 ((ins_perm hi hn (b, r)).mem_iff.1 hm) with e | e
    · cases e
      exact ⟨blk_set_other hb (fun e => blk_ne h.arr hb (by decide) e.symm) _, hr⟩
    · exact ⟨blk_set_other (h.head b' r' e).1 (fun e' => (h.ne_head e).2 e'.symm) _, (h.head b' r' e).2⟩

/-- the table over its new, free places -/
theorem start {w : World} {T A : Nat} {S : List (Option Ent)} {n s0 s1 : Int} {p0 p1 : Value} {sp : Int} (h : Tab w T A S n s0 s1 p0 p1 sp) (M : Nat) :
    Tab ((w.setCell ⟨T, 0, none⟩ (.slice (some ⟨w.heap.size, 0, none⟩) M M)).alloc (.cells (madeCells #[.pointer none] M) 29)) T w.heap.size (List.replicate M none) n s0 s1 p0 p1 sp := by
  refine ⟨?_, ?_, ?_⟩
  · rw [List.length_replicate]
    exact blk_alloc (blk_set h.tab 0 _) _
  · have := blk_new (w.setCell ⟨T, 0, none⟩ (.slice (some ⟨w.heap.size, 0, none⟩) M M)) (.cells (madeCells #[.pointer none] M) 29)
    rw [World.size_setCell] at this
    rw [this, made_nil]
  · intro b r hm
    rw [fm_nil] at hm
    cases hm

theorem start_fr {w : World} {T : Nat} (v : Value) (o : Obj) : Fr (fun b => b = T) w ((w.setCell ⟨T, 0, none⟩ v).alloc o) :=
  ((Fr.refl (fun b => b = T) w).setCell (p := ⟨T, 0, none⟩) (fun _ => rfl) v).alloc o

theorem held_put {wr w' : World} {T A' M b : Nat} {k t y : Int} (f : Fr (fun x => x = A') wr w') (hT : T < wr.heap.size) (hb : b < wr.heap.size) (hTA : T ≠ A') (hbA : b ≠ A')
    (t0 : wr.cell? ⟨T, 0, none⟩ = some (.slice (some ⟨A', 0, none⟩) M M)) (e0 : wr.cell? ⟨b, 0, none⟩ = some (.int .u8 k)) (e1 : wr.cell? ⟨b, 1, none⟩ = some (.int .u32 t)) (e2 : wr.cell? ⟨b, 2, none⟩ = some (.int .u64 y)) :
    Fr (fun x => x = A') wr w' ∧ w'.cell? ⟨T, 0, none⟩ = some (.slice (some ⟨A', 0, none⟩) M M) ∧ w'.cell? ⟨b, 0, none⟩ = some (.int .u8 k) ∧ w'.cell? ⟨b, 1, none⟩ = some (.int .u32 t) ∧ w'.cell? ⟨b, 2, none⟩ = some (.int .u64 y) :=
  ⟨f, (World.cell?_of_block (f.block T hT hTA)).trans t0, (World.cell?_of_block (f.block b hb hbA)).trans e0, (World.cell?_of_block (f.block b hb hbA)).trans e1, (World.cell?_of_block (f.block b hb hbA)).trans e2⟩

set_option maxHeartbeats 1000000 in
theorem resize_any (w : World) (T A : Nat) (S : List (Option Ent)) (n s0 s1 : Int) (p0 p1 : Value) (sp : Int) (ht : Tab w T A S n s0 s1 p0 p1 sp) (hg : plain.Good S (hN s0 s1)) (p : Nat) (hp : S.length = 2 ^ p) (hp' : p ≤ 39) (M : Nat) (hM : M = 2 * S.length) :
    Calls Yba.prog 16 #[.pointer (some ⟨T, 0, none⟩), .int .i64 (M : Int)] w fun e w' => e = .returned (.tuple #[]) ∧ ∃ A' S2, Tab w' T A' S2 n s0 s1 p0 p1 sp ∧ S2.length = M ∧ plain.Good S2 (hN s0 s1) ∧ (S2.filterMap id).Perm (S.filterMap id) ∧
      w.heap.size ≤ A' ∧ Fr (fun b => b = T) w w' := by
  have hlt : 2 ^ p ≤ 2 ^ 39 := Nat.pow_le_pow_right (by decide) hp'
  have hpos : 0 < 2 ^ p := Nat.two_pow_pos p
  have HP : Hid (M = 2 ^ (p + 1)) := by show M = 2 ^ (p + 1); rw [Nat.pow_succ]; omega
  obtain ⟨N, hN'⟩ : ∃ N, N = S.length := ⟨_, rfl⟩
  have HN : Hid (N = S.length) := hN'
  have HM : Hid (M = 2 * N) := by show M = 2 * N; omega
  have n1 : (1 : Int) ≤ (N : Int) := by omega
  have n2 : (N : Int) ≤ 1099511627776 := by omega
  have hT := blk_lt ht.tab
  have c0 : w.cell? ⟨T, 0, none⟩ = some (.slice (some ⟨A, 0, none⟩) N N) := by rw [blk_cell ht.tab, hN']; rfl
  have z0 : w.frozen? ⟨T, 0, none⟩ = false := blk_frozen ht.tab 0
  have hmk := run_make_row' (P := Yba.prog) 26 29 (.pointer none) 8 Yba.underlying26 info29 rfl .i64 .i64 M (by omega) (by omega)
  have HT : Hid (Tab w T A S n s0 s1 p0 p1 sp) := ht
  have HG : Hid (plain.Good S (hN s0 s1)) := hg
  clear hp hlt hpos hN' ht hg hM
  go_enter Yba.func16, Yba.ntmps16
  go_wp2_with fail
  have HS0 := hidden (start HT.out M)
  have HF0 := hidden (start_fr (w := w) (T := T) (.slice (some ⟨w.heap.size, 0, none⟩) M M) (.cells (madeCells #[.pointer none] M) 29))
  go_loopw [18] (fun i wr => ∃ (j : Nat) (S2 : List (Option Ent)), j ≤ N ∧ i = .int .i64 j ∧ Hid (Tab wr T w.heap.size S2 n s0 s1 p0 p1 sp ∧ S2.length = M ∧ plain.Good S2 (hN s0 s1) ∧ (S2.filterMap id).Perm ((S.take j).filterMap id) ∧ Fr (fun b => b = T) w wr))
    (fun i _ => N - (intOf i).toNat)
  case atStart => exact ⟨0, _, Nat.zero_le _, rfl, HS0.out, by simp, good_nil _ _, by rw [fm_nil]; simp, HF0.out⟩
  case round =>
    clear HS0 HF0 c0 z0 hmk
    obtain ⟨j, S2, hj, rfl, H⟩ := hrel
    by_cases hlt : j < N
    · have hA : wr.heap[A]? = some (.cells (S.map ptr).toArray 29) := H.out.2.2.2.2.blk HT.out.arr (fun e => HT.out.ne e.symm)
      have cA : wr.cell? ⟨A, j, none⟩ = some (ptr (atS S j)) := by rw [blk_cell hA]; simp [atS_get (show j < S.length by rw [← HN.out]; exact hlt)]
      clear hA
      cases hs : atS S j with
      | none =>
        have HS := hidden hs
        rw [hs] at cA
        simp only [ptr] at cA
        clear hs
        go_wp2_with fail
        go_roundw
        case rel => exact ⟨j + 1, S2, by omega, by go_num, H.out.1, H.out.2.1, H.out.2.2.1, by rw [take_none (by rw [← HN.out]; exact hlt) HS.out]; exact H.out.2.2.2.1, H.out.2.2.2.2⟩
        case measure => simp [intOf]; omega
      | some e =>
        obtain ⟨b, k, t, y⟩ := e
        have HS := hidden hs
        rw [hs] at cA
        simp only [ptr] at cA
        have hjS : j < S.length := by rw [← HN.out]; exact hlt
        obtain ⟨hT2, hl2, hg2, hp2, hf2⟩ := H.out
        have hm : (b, (k, t, y)) ∈ S.filterMap id := mem_iff.2 ⟨j, hs⟩
        have hbw : w.heap[b]? = some (.cells (headC (k, t, y)) 39) := (HT.out.head _ _ hm).1
        have hrok : Rok (k, t, y) := (HT.out.head _ _ hm).2
        have hb : wr.heap[b]? = some (.cells (headC (k, t, y)) 39) := hf2.blk hbw (fun e => (HT.out.ne_head hm).1 e.symm)
        have hbA : b ≠ w.heap.size := Nat.ne_of_lt (blk_lt hbw)
        have hTA : T ≠ w.heap.size := Nat.ne_of_lt hT
        have hfill : (S2.filterMap id).length < S2.length := by
          have := hp2.length_eq
          have := take_le S j
          have := HM.out
          omega
        obtain ⟨d, hd, hst⟩ := stop_of (hN s0 s1 (k, t, y)) (k, t, y) (free_of hfill)
        obtain ⟨ix, hix⟩ : ∃ ix, ix = (hN s0 s1 (k, t, y) + d) % S2.length := ⟨_, rfl⟩
        have hfree : atS S2 ix = none := by
          rw [hix]
          rcases hst.2 with h | ⟨b', h⟩
          · exact h
          · exact absurd h (not_yet HG.out hp2 hs _ _)
        have hixM : ix < M := by rw [hix, hl2]; exact Nat.mod_lt _ (by omega)
        have hg3 : plain.Good (S2.set ix (some (b, (k, t, y)))) (hN s0 s1) := by
          rw [hix] at hfree ⊢
          exact ins_good hg2 hd hst.1 hfree
        have hp3 : ((S2.set ix (some (b, (k, t, y)))).filterMap id).Perm ((S.take (j + 1)).filterMap id) := by
          rw [take_some hjS hs]
          exact ((ins_perm (by omega) hfree _).trans (List.Perm.cons _ hp2)).trans (List.perm_append_singleton _ _).symm
        have HC := fun w' (f : Fr Nil wr w') => slot_any w' T w.heap.size S2 n s0 s1 p0 p1 sp (hT2.nil f) k t y hrok (p + 1) (by rw [hl2]; exact HP.out) (by omega) d hst
        rw [← hix] at HC
        have hTr := blk_lt hT2.tab
        have hAr := blk_lt hT2.arr
        have hbr := blk_lt hb
        have t0 : wr.cell? ⟨T, 0, none⟩ = some (.slice (some ⟨w.heap.size, 0, none⟩) M M) := by rw [blk_cell hT2.tab, hl2]; rfl
        have e0 : wr.cell? ⟨b, 0, none⟩ = some (.int .u8 k) := by rw [blk_cell hb]; rfl
        have e1 : wr.cell? ⟨b, 1, none⟩ = some (.int .u32 t) := by rw [blk_cell hb]; rfl
        have e2 : wr.cell? ⟨b, 2, none⟩ = some (.int .u64 y) := by rw [blk_cell hb]; rfl
        have HH := hidden HC
        have HR := hidden (show Tab wr T w.heap.size S2 n s0 s1 p0 p1 sp ∧ S2.length = M ∧ atS S2 ix = none ∧ wr.heap[b]? = some (.cells (headC (k, t, y)) 39) ∧ Rok (k, t, y) ∧ Fr (fun b => b = T) w wr from ⟨hT2, hl2, hfree, hb, hrok, hf2⟩)
        have HG3 := hidden hg3
        have HP3 := hidden hp3
        have i1 : (0 : Int) ≤ (ix : Int) := by omega
        have i2 : (ix : Int) < (M : Int) := by omega
        clear hs hT2 hl2 hg2 hp2 hf2 hm hbw hrok hb hfill hst hix hfree hg3 hp3 HC hjS hd
        go_wp2_with fail
        go_region_held3 (fun w' => Fr (fun x => x = w.heap.size) wr w' ∧ w'.cell? ⟨T, 0, none⟩ = some (.slice (some ⟨w.heap.size, 0, none⟩) M M) ∧ w'.cell? ⟨b, 0, none⟩ = some (.int .u8 k) ∧ w'.cell? ⟨b, 1, none⟩ = some (.int .u32 t) ∧ w'.cell? ⟨b, 2, none⟩ = some (.int .u64 y))
          ((refine held_put ?_ hTr hbr hTA hbA t0 e0 e1 e2; first | exact Fr.refl _ _ | exact (Fr.refl _ _).drew | exact Fr.ofNil (by assumption) | (refine Fr.setCell (Fr.ofNil (by assumption)) ?_ _; intro _; rfl)))
          (first | (go_at_call 15; refine (HH.out _ (by exact (Fr.refl _ _).drew)).mono ?_; rintro e w' ⟨rfl, f0⟩; have f := (Fr.refl Nil wr).drew.trans f0; clear f0; have hz : w'.frozen? ⟨w.heap.size, ix, none⟩ = false := blk_frozen (f.blk HR.out.1.arr (fun h => h)) _; have hc : w'.cell? ⟨w.heap.size, ix, none⟩ = some (.pointer none) := (by rw [(HR.out.1.nil f).slot (by rw [HR.out.2.1]; exact hixM), HR.out.2.2.1]; rfl)))
        go_wp2_with fail
        go_roundw
        case rel =>
          obtain ⟨hT2, hl2, hfree, hb, hrok, hf2⟩ := HR.out
          have f := (show Fr Nil wr w' by assumption)
          exact ⟨j + 1, S2.set ix (some (b, (k, t, y))), by omega, by go_num, put (hT2.nil f) (by omega) hfree (f.blk hb (fun h => h)) hrok, by rw [List.length_set]; exact hl2, HG3.out, HP3.out,
            (hf2.trans (Fr.ofNil f)).setCell (p := ⟨w.heap.size, ix, none⟩) (fun h => absurd h (Nat.lt_irrefl _)) _⟩
        case measure => simp [intOf]; omega
    · go_wp2_with fail
      go_end0
      have hjN : j = S.length := by rw [← HN.out]; omega
      refine ⟨rfl, w.heap.size, S2, H.out.1, H.out.2.1, H.out.2.2.1, ?_, Nat.le_refl _, H.out.2.2.2.2⟩
      have := H.out.2.2.2.1
      rw [hjN, List.take_length] at this
      exact this
end Go.Proofs.Ybulkbrno.resize
