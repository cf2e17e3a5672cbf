/-
  The contracts of '(*lockTable).slot' (function 15) and '.find' (function 8).
-/
import Derived.Test.YbulkbrnoHome
import Derived.Deep.LoopGhost
namespace Go.Proofs.Ybulkbrno.slot
open Go.ChangeShapes Go.WideShapes Go.ChangeAt Go.RowKit plain mem

theorem ret_int {k : IntKind} {a b : Int} (h : a = b) : Ending.returned (.int k a) = .returned (.int k b) := by rw [h]
theorem hidden {p : Prop} (h : p) : Hid p := h

/-- '==' of two resources -/
theorem run_eql_res (k t y k' t' y' : Int) (b : Bool) (hb : b = decide (k = k' ∧ t = t' ∧ y = y')) (w : World) :
    (binOp .eql 35 (.agg #[.int .u8 k, .int .u32 t, .int .u64 y]) (.agg #[.int .u8 k', .int .u32 t', .int .u64 y'])).run Yba.prog w = .ok (.bool b) w := by
  subst hb
  by_cases h1 : k = k'
  · subst h1
    by_cases h2 : t = t'
    · subst h2
      by_cases h3 : y = y'
      · subst h3
        go_simp
      · go_simp
    · go_simp
  · go_simp

/-- '!=' of two resources -/
theorem run_neq_res (k t y k' t' y' : Int) (b : Bool) (hb : b = !decide (k = k' ∧ t = t' ∧ y = y')) (w : World) :
    (binOp .neq 35 (.agg #[.int .u8 k, .int .u32 t, .int .u64 y]) (.agg #[.int .u8 k', .int .u32 t', .int .u64 y'])).run Yba.prog w = .ok (.bool b) w := by
  subst hb
  by_cases h1 : k = k'
  · subst h1
    by_cases h2 : t = t'
    · subst h2
      by_cases h3 : y = y'
      · subst h3
        go_simp
      · go_simp
    · go_simp
  · go_simp

/-- the mask of a power of two is the rest, at int -/
theorem mask_mod (h p : Nat) (hh : h < 9223372036854775808) (hp : p ≤ 40) : bits .and .i64 (h : Int) (((2 ^ p : Nat) : Int) - 1) = ((h % 2 ^ p : Nat) : Int) := by
  have hlt : 2 ^ p ≤ 2 ^ 40 := Nat.pow_le_pow_right (by decide) hp
  have hpos : 0 < 2 ^ p := Nat.two_pow_pos p
  have hc : (((2 ^ p : Nat) : Int) - 1) = (2 : Int) ^ p - 1 := by simp
  rw [hc, bits_mask .i64 63 (by decide) (by intro n h0 h1; rw [IntKind.wrap_i64]; omega) p (by omega) h (by omega) (by omega)]
  simp

theorem slot_any (w : World) (T A : Nat) (S : List (Option Ent)) (n s0 s1 : Int) (p0 p1 : Value) (sp : Int) (ht : Tab w T A S n s0 s1 p0 p1 sp) (k t y : Int) (hr : Rok (k, t, y)) (p : Nat) (hp : S.length = 2 ^ p) (hp' : p ≤ 40)
    (d : Nat) (hst : Stop S (hN s0 s1 (k, t, y)) (k, t, y) d) :
    Calls Yba.prog 15 #[.pointer (some ⟨T, 0, none⟩), .agg #[.int .u8 k, .int .u32 t, .int .u64 y]] w fun e w' => e = .returned (.int .i64 (((hN s0 s1 (k, t, y) + d) % S.length : Nat) : Int)) ∧ Fr Nil w w' := by
  have hlt : 2 ^ p ≤ 2 ^ 40 := Nat.pow_le_pow_right (by decide) hp'
  have hpos : 0 < 2 ^ p := Nat.two_pow_pos p
  have HP : Hid (S.length = 2 ^ p) := hp
  obtain ⟨N, hN'⟩ : ∃ N, N = S.length := ⟨_, rfl⟩
  have HN : Hid (N = S.length) := hN'
  have n1 : (1 : Int) ≤ (N : Int) := by omega
  have n2 : (N : Int) ≤ 1099511627776 := by omega
  obtain ⟨h, hh⟩ : ∃ h, h = hN s0 s1 (k, t, y) := ⟨_, rfl⟩
  have hT := blk_lt ht.tab
  have c0 : w.cell? ⟨T, 0, none⟩ = some (.slice (some ⟨A, 0, none⟩) N N) := by rw [blk_cell ht.tab, hN']; rfl
  have HC := home.home_any (w.alloc (.cells #[.int .u8 k, .int .u32 t, .int .u64 y] 35)) T A S n s0 s1 p0 p1 sp (ht.nil ((Fr.refl _ _).alloc _)) (k, t, y) hr p hp hp'
  rw [← hh, ← hN'] at HC
  rw [← hh] at hst
  rw [← hh, ← hN']
  have HT : Hid (Tab w T A S n s0 s1 p0 p1 sp) := ht
  have HS : Hid (Stop S h (k, t, y) d) := hst
  dsimp only at HC
  have HH := hidden HC
  clear hp hlt hpos hN' hh ht hst HC
  go_enter Yba.func15, Yba.ntmps15
  go_wp2_with fail
  refine HH.out.mono ?_
  rintro e w1 ⟨rfl, f1⟩
  clear HH
  go_wp2_with fail
  go_loopg [6] d (fun gk i wr => ∃ j : Nat, j + gk = d ∧ i = .int .i64 (((h + j) % N : Nat) : Int) ∧ Fr Nil (w.alloc (.cells #[.int .u8 k, .int .u32 t, .int .u64 y] 35)) wr)
  case atStart => exact ⟨0, by omega, rfl, f1⟩
  case round =>
    obtain ⟨j, hj, rfl, f⟩ := hrel
    obtain ⟨i, hi⟩ : ∃ i, i = (h + j) % N := ⟨_, rfl⟩
    have HI : Hid (i = (h + j) % N) := hi
    rw [← hi]
    have hiN : i < N := by rw [hi]; exact Nat.mod_lt _ (by omega)
    clear hi
    have i1 : (0 : Int) ≤ (i : Int) := by omega
    have i2 : (i : Int) < (N : Int) := by omega
    have hand : bits .and .i64 ((i : Int) + 1) ((N : Int) - 1) = (((i + 1) % N : Nat) : Int) := by
      have := mask_mod (i + 1) p (by omega) hp'
      rw [← HP.out, ← HN.out] at this
      simpa using this
    have HTr : Hid (Tab wr T A S n s0 s1 p0 p1 sp) := HT.out.nil (((Fr.refl _ _).alloc _).trans f)
    have hTr := blk_lt HTr.out.tab
    have d0 : wr.cell? ⟨T, 0, none⟩ = some (.slice (some ⟨A, 0, none⟩) N N) := by rw [blk_cell HTr.out.tab, HN.out]; rfl
    have dA : wr.cell? ⟨A, i, none⟩ = some (ptr (atS S i)) := HTr.out.slot (by rw [← HN.out]; exact hiN)
    have bx := f.blk (blk_new w (.cells #[.int .u8 k, .int .u32 t, .int .u64 y] 35)) (fun h => h)
    have b0 : wr.cell? ⟨w.heap.size, 0, none⟩ = some (.int .u8 k) := by rw [blk_cell bx]; rfl
    have b1 : wr.cell? ⟨w.heap.size, 1, none⟩ = some (.int .u32 t) := by rw [blk_cell bx]; rfl
    have b2 : wr.cell? ⟨w.heap.size, 2, none⟩ = some (.int .u64 y) := by rw [blk_cell bx]; rfl
    clear bx c0 f1
    have F : Hid (Fr Nil w wr) := ((Fr.refl _ _).alloc _).trans f
    have F' := hidden f
    clear f
    by_cases hjd : j = d
    · subst hjd
      have hs2 := HS.out.2
      rw [← HN.out, ← HI.out] at hs2
      rcases hs2 with hs2 | ⟨b, hs2⟩
      · rw [hs2] at dA
        simp only [ptr] at dA
        go_wp2_with fail
        go_quiet (fail)
        go_wp2_with fail
        go_ret
        exact ⟨ret_int (by rw [HI.out]), F.out.drewN _⟩
      · rw [hs2] at dA
        simp only [ptr] at dA
        have hb := (HTr.out.head b (k, t, y) (mem_iff.2 ⟨i, hs2⟩)).1
        have e0 : wr.cell? ⟨b, 0, none⟩ = some (.int .u8 k) := by rw [blk_cell hb]; rfl
        have e1 : wr.cell? ⟨b, 1, none⟩ = some (.int .u32 t) := by rw [blk_cell hb]; rfl
        have e2 : wr.cell? ⟨b, 2, none⟩ = some (.int .u64 y) := by rw [blk_cell hb]; rfl
        have q := run_eql_res k t y k t y true (by simp)
        clear hb hs2
        go_wp2_with fail
        go_quiet (fail)
        go_wp2_with fail
        go_ret
        exact ⟨ret_int (by rw [HI.out]), F.out.drewN _⟩
    · obtain ⟨b, r', hs2, hne⟩ := HS.out.1 j (by omega)
      rw [← HN.out, ← HI.out] at hs2
      obtain ⟨k', t', y'⟩ := r'
      rw [hs2] at dA
      simp only [ptr] at dA
      have hb := (HTr.out.head b (k', t', y') (mem_iff.2 ⟨i, hs2⟩)).1
      have e0 : wr.cell? ⟨b, 0, none⟩ = some (.int .u8 k') := by rw [blk_cell hb]; rfl
      have e1 : wr.cell? ⟨b, 1, none⟩ = some (.int .u32 t') := by rw [blk_cell hb]; rfl
      have e2 : wr.cell? ⟨b, 2, none⟩ = some (.int .u64 y') := by rw [blk_cell hb]; rfl
      have q := run_eql_res k' t' y' k t y false (by simpa using hne)
      clear hb hs2 hne
      go_wp2_with fail
      go_quiet (fail)
      go_wp2_with fail
      go_roundg (gk - 1)
      case measure => omega
      case rel =>
        refine ⟨j + 1, by omega, ?_, F'.out.drewN _⟩
        have e : (i + 1) % N = (h + (j + 1)) % N := by rw [HI.out, Nat.mod_add_mod]; rfl
        rw [← e]
        go_num

theorem held_find {w w' : World} {T A N i : Nat} {k t y : Int} {v : Option Addr} (f : Fr Nil (w.alloc (.cells #[.int .u8 k, .int .u32 t, .int .u64 y] 35)) w') (hT : T < w.heap.size) (hA : A < w.heap.size)
    (c0 : w.cell? ⟨T, 0, none⟩ = some (.slice (some ⟨A, 0, none⟩) N N)) (cA : w.cell? ⟨A, i, none⟩ = some (.pointer v)) :
    Fr Nil (w.alloc (.cells #[.int .u8 k, .int .u32 t, .int .u64 y] 35)) w' ∧ w'.cell? ⟨w.heap.size, 0, none⟩ = some (.int .u8 k) ∧ w'.cell? ⟨w.heap.size, 1, none⟩ = some (.int .u32 t) ∧ w'.cell? ⟨w.heap.size, 2, none⟩ = some (.int .u64 y) ∧ w'.cell? ⟨T, 0, none⟩ = some (.slice (some ⟨A, 0, none⟩) N N) ∧ w'.cell? ⟨A, i, none⟩ = some (.pointer v) := by
  have bx := f.blk (blk_new w _) (fun h => h)
  have f' := ((Fr.refl Nil w).alloc (.cells #[.int .u8 k, .int .u32 t, .int .u64 y] 35)).trans f
  exact ⟨f, by rw [blk_cell bx]; rfl, by rw [blk_cell bx]; rfl, by rw [blk_cell bx]; rfl, (World.cell?_of_block (f'.block T hT (fun h => h))).trans c0, (World.cell?_of_block (f'.block A hA (fun h => h))).trans cA⟩

theorem find_core (w : World) (T A : Nat) (S : List (Option Ent)) (n s0 s1 : Int) (p0 p1 : Value) (sp : Int) (ht : Tab w T A S n s0 s1 p0 p1 sp) (k t y : Int) (hr : Rok (k, t, y)) (p : Nat) (hp : S.length = 2 ^ p) (hp' : p ≤ 40)
    (d : Nat) (hst : Stop S (hN s0 s1 (k, t, y)) (k, t, y) d) :
    Calls Yba.prog 8 #[.pointer (some ⟨T, 0, none⟩), .agg #[.int .u8 k, .int .u32 t, .int .u64 y]] w fun e w' => e = .returned (ptr (atS S ((hN s0 s1 (k, t, y) + d) % S.length))) ∧ Fr Nil w w' := by
  have hlt : 2 ^ p ≤ 2 ^ 40 := Nat.pow_le_pow_right (by decide) hp'
  have hpos : 0 < 2 ^ p := Nat.two_pow_pos p
  obtain ⟨N, hN'⟩ : ∃ N, N = S.length := ⟨_, rfl⟩
  have n2 : (N : Int) ≤ 1099511627776 := by omega
  obtain ⟨i, hi⟩ : ∃ i, i = (hN s0 s1 (k, t, y) + d) % S.length := ⟨_, rfl⟩
  have hiN : i < N := by rw [hi, hN']; exact Nat.mod_lt _ (by omega)
  have i1 : (0 : Int) ≤ (i : Int) := by omega
  have i2 : (i : Int) < (N : Int) := by omega
  have hT := blk_lt ht.tab
  have c0 : w.cell? ⟨T, 0, none⟩ = some (.slice (some ⟨A, 0, none⟩) N N) := by rw [blk_cell ht.tab, hN']; rfl
  have cA : w.cell? ⟨A, i, none⟩ = some (ptr (atS S i)) := ht.slot (by omega)
  have hA := blk_lt ht.arr
  have HC := fun w' (f : Fr Nil w w') => slot_any w' T A S n s0 s1 p0 p1 sp (ht.nil f) k t y hr p hp hp' d hst
  rw [← hi]
  rw [← hi] at HC
  obtain ⟨v, hv⟩ : ∃ v, ptr (atS S i) = .pointer v := by cases atS S i <;> exact ⟨_, rfl⟩
  rw [hv] at cA ⊢
  have HH := hidden HC
  clear hp hlt hpos hN' hi ht hst HC hv
  go_enter Yba.func8, Yba.ntmps8
  go_wp2
  go_region_held3 (fun w' => Fr Nil (w.alloc (.cells #[.int .u8 k, .int .u32 t, .int .u64 y] 35)) w' ∧ w'.cell? ⟨w.heap.size, 0, none⟩ = some (.int .u8 k) ∧ w'.cell? ⟨w.heap.size, 1, none⟩ = some (.int .u32 t) ∧ w'.cell? ⟨w.heap.size, 2, none⟩ = some (.int .u64 y) ∧ w'.cell? ⟨T, 0, none⟩ = some (.slice (some ⟨A, 0, none⟩) N N) ∧ w'.cell? ⟨A, i, none⟩ = some (.pointer v))
    ((refine held_find ?_ hT hA c0 cA; first | exact Fr.refl _ _ | exact (Fr.refl _ _).drew | exact (Fr.refl _ _).drew.trans (by assumption)))
    (first | (go_at_call 15; refine (HH.out _ (by exact ((Fr.refl _ _).alloc _).drew)).mono ?_; rintro e w' ⟨rfl, f⟩))
  go_wp2
  go_ret
  exact ⟨rfl, ((Fr.refl _ _).alloc _).drew.trans f⟩

theorem find_yes (w : World) (T A : Nat) (S : List (Option Ent)) (n s0 s1 : Int) (p0 p1 : Value) (sp : Int) (ht : Tab w T A S n s0 s1 p0 p1 sp) (hg : plain.Good S (hN s0 s1)) (k t y : Int) (p : Nat) (hp : S.length = 2 ^ p) (hp' : p ≤ 40)
    (b : Nat) (hb : (b, (k, t, y)) ∈ S.filterMap id) :
    Calls Yba.prog 8 #[.pointer (some ⟨T, 0, none⟩), .agg #[.int .u8 k, .int .u32 t, .int .u64 y]] w fun e w' => e = .returned (.pointer (some ⟨b, 0, none⟩)) ∧ Fr Nil w w' := by
  obtain ⟨i, hi⟩ := mem_iff.1 hb
  obtain ⟨d, _, h2, h3⟩ := good_stop hg hi
  have := find_core w T A S n s0 s1 p0 p1 sp ht k t y (ht.head b _ hb).2 p hp hp' d h3
  rw [← h2, hi] at this
  exact this

theorem find_no (w : World) (T A : Nat) (S : List (Option Ent)) (n s0 s1 : Int) (p0 p1 : Value) (sp : Int) (ht : Tab w T A S n s0 s1 p0 p1 sp) (k t y : Int) (hr : Rok (k, t, y)) (p : Nat) (hp : S.length = 2 ^ p) (hp' : p ≤ 40)
    (hf : (S.filterMap id).length < S.length) (hb : ∀ b, (b, (k, t, y)) ∉ S.filterMap id) :
    Calls Yba.prog 8 #[.pointer (some ⟨T, 0, none⟩), .agg #[.int .u8 k, .int .u32 t, .int .u64 y]] w fun e w' => e = .returned (.pointer none) ∧ Fr Nil w w' := by
  obtain ⟨d, hd, hst⟩ := stop_of (hN s0 s1 (k, t, y)) (k, t, y) (free_of hf)
  have := find_core w T A S n s0 s1 p0 p1 sp ht k t y hr p hp hp' d hst
  rcases hst.2 with h | ⟨b, h⟩
  · rw [h] at this; exact this
  · exact absurd (mem_iff.2 ⟨_, h⟩) (hb b)
end Go.Proofs.Ybulkbrno.slot
