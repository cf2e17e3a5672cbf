/-
  The contract of '(*lockTable).add' (function 14).
-/
import Derived.Test.YbulkbrnoResize
namespace Go.Proofs.Ybulkbrno.add
open Go.ChangeShapes Go.WideShapes Go.ChangeAt Go.RowKit plain mem slot resize

/-- the resize's contract, its argument as the caller spells it -/
theorem resize_at (w : World) (T A : Nat) (S : List (Option Ent)) (n s0 s1 : Int) (p0 p1 : Value) (sp : Int) (ht : Tab w T A S n s0 s1 p0 p1 sp) (hg : plain.Good S (hN s0 s1)) (p : Nat) (hp : S.length = 2 ^ p) (hp' : p ≤ 39) (M : Nat) (hM : M = 2 * S.length) (v : Int) (hv : v = (M : Int)) :
    Calls Yba.prog 16 #[.pointer (some ⟨T, 0, none⟩), .int .i64 v] w fun e w' => e = .returned (.tuple #[]) ∧ ∃ A' S2, Tab w' T A' S2 n s0 s1 p0 p1 sp ∧ S2.length = M ∧ plain.Good S2 (hN s0 s1) ∧ (S2.filterMap id).Perm (S.filterMap id) ∧
      w.heap.size ≤ A' ∧ Fr (fun b => b = T) w w' := by
  subst hv
  exact resize_any w T A S n s0 s1 p0 p1 sp ht hg p hp hp' M hM

/-- the number of entries, one more -/
theorem bump {w : World} {T A : Nat} {S : List (Option Ent)} {n s0 s1 : Int} {p0 p1 : Value} {sp : Int} (h : Tab w T A S n s0 s1 p0 p1 sp) (m : Int) : Tab (w.setCell ⟨T, 1, none⟩ (.int .i64 m)) T A S m s0 s1 p0 p1 sp :=
  ⟨blk_set h.tab 1 _, blk_set_other h.arr h.ne.symm _, fun b r hm => ⟨blk_set_other (h.head b r hm).1 (h.ne_head hm).1.symm _, (h.head b r hm).2⟩⟩

/-- THE PLACE THAT IS FOUND, AND THE TABLE BEHIND THE STORE -/
theorem place {w1 : World} {T A1 : Nat} {S1 : List (Option Ent)} {n s0 s1 : Int} {p0 p1 : Value} {sp : Int} (ht1 : Tab w1 T A1 S1 n s0 s1 p0 p1 sp) (hg1 : plain.Good S1 (hN s0 s1)) (p1' : Nat) (hp1 : S1.length = 2 ^ p1') (hp1' : p1' ≤ 40)
    (hfill : (S1.filterMap id).length < S1.length) (b : Nat) (k t y : Int) (hb : w1.heap[b]? = some (.cells (headC (k, t, y)) 39)) (hrok : Rok (k, t, y)) (hnew : ∀ b', (b', (k, t, y)) ∉ S1.filterMap id) :
    ∃ ix, ix < S1.length ∧ (∀ w', Fr Nil w1 w' → Calls Yba.prog 15 #[.pointer (some ⟨T, 0, none⟩), .agg #[.int .u8 k, .int .u32 t, .int .u64 y]] w' fun e w'' => e = .returned (.int .i64 (ix : Int)) ∧ Fr Nil w' w'') ∧
      (∀ w', Fr Nil w1 w' → w'.frozen? ⟨A1, ix, none⟩ = false ∧ w'.cell? ⟨A1, ix, none⟩ = some (.pointer none) ∧ Tab (w'.setCell ⟨A1, ix, none⟩ (.pointer (some ⟨b, 0, none⟩))) T A1 (S1.set ix (some (b, (k, t, y)))) n s0 s1 p0 p1 sp) ∧
      plain.Good (S1.set ix (some (b, (k, t, y)))) (hN s0 s1) ∧ ((S1.set ix (some (b, (k, t, y)))).filterMap id).Perm ((b, (k, t, y)) :: S1.filterMap id) := by
  obtain ⟨d, hd, hst⟩ := stop_of (hN s0 s1 (k, t, y)) (k, t, y) (free_of hfill)
  obtain ⟨ix, hix⟩ : ∃ ix, ix = (hN s0 s1 (k, t, y) + d) % S1.length := ⟨_, rfl⟩
  have hfree : atS S1 ix = none := by
    rw [hix]
    rcases hst.2 with h | ⟨b', h⟩
    · exact h
    · exact absurd (mem_iff.2 ⟨_, h⟩) (hnew b')
  have hixM : ix < S1.length := by rw [hix]; exact Nat.mod_lt _ (by omega)
  refine ⟨ix, hixM, ?_, ?_, ?_, ins_perm hixM hfree _⟩
  · intro w' f
    rw [hix]
    exact slot_any w' T A1 S1 n s0 s1 p0 p1 sp (ht1.nil f) k t y hrok p1' hp1 hp1' d hst
  · intro w' f
    exact ⟨blk_frozen (f.blk ht1.arr (fun h => h)) _, by rw [(ht1.nil f).slot hixM, hfree]; rfl, put (ht1.nil f) hixM hfree (f.blk hb (fun h => h)) hrok⟩
  · rw [hix] at hfree ⊢
    exact ins_good hg1 hd hst.1 hfree

set_option maxHeartbeats 1000000 in
/-- there is room -/
theorem add_room (w : World) (T A : Nat) (S : List (Option Ent)) (s0 s1 : Int) (p0 p1 : Value) (sp : Int) (m : Nat) (ht : Tab w T A S (m : Int) s0 s1 p0 p1 sp) (hg : plain.Good S (hN s0 s1)) (p : Nat) (hp : S.length = 2 ^ p) (hp' : p ≤ 38)
    (hm : (S.filterMap id).length = m) (hroom : (m + 1) * 4 ≤ S.length * 3) (b : Nat) (k t y : Int) (hb : w.heap[b]? = some (.cells (headC (k, t, y)) 39)) (hrok : Rok (k, t, y)) (hnew : ∀ b', (b', (k, t, y)) ∉ S.filterMap id) :
    Calls Yba.prog 14 #[.pointer (some ⟨T, 0, none⟩), .pointer (some ⟨b, 0, none⟩)] w fun e w' => e = .returned (.tuple #[]) ∧ ∃ S', Tab w' T A S' ((m : Int) + 1) s0 s1 p0 p1 sp ∧ S'.length = S.length ∧ plain.Good S' (hN s0 s1) ∧ (S'.filterMap id).Perm ((b, (k, t, y)) :: S.filterMap id) ∧
      Fr (fun x => x = T ∨ x = A) w w' := by
  have hlt : 2 ^ p ≤ 2 ^ 38 := Nat.pow_le_pow_right (by decide) hp'
  obtain ⟨ix, hix, hcall, hst, hg3, hp3⟩ := place ht hg p hp (by omega) (by omega) b k t y hb hrok hnew
  obtain ⟨N, hN'⟩ : ∃ N, N = S.length := ⟨_, rfl⟩
  have HN : Hid (N = S.length) := hN'
  have n2 : (N : Int) ≤ 1099511627776 := by omega
  have hroom' : ((m : Int) + 1) * 4 ≤ (N : Int) * 3 := by omega
  have i1 : (0 : Int) ≤ (ix : Int) := by omega
  have i2 : (ix : Int) < (N : Int) := by omega
  have hT := blk_lt ht.tab
  have hbw := blk_lt hb
  have hTA : T ≠ A := ht.ne
  have hTA' : A ≠ T := ht.ne.symm
  have hbA : b ≠ A := fun e => blk_ne ht.arr hb (by decide) e.symm
  have t0 : w.cell? ⟨T, 0, none⟩ = some (.slice (some ⟨A, 0, none⟩) N N) := by rw [blk_cell ht.tab, hN']; rfl
  have t1 : w.cell? ⟨T, 1, none⟩ = some (.int .i64 (m : Int)) := by rw [blk_cell ht.tab]; rfl
  have e0 : w.cell? ⟨b, 0, none⟩ = some (.int .u8 k) := by rw [blk_cell hb]; rfl
  have e1 : w.cell? ⟨b, 1, none⟩ = some (.int .u32 t) := by rw [blk_cell hb]; rfl
  have e2 : w.cell? ⟨b, 2, none⟩ = some (.int .u64 y) := by rw [blk_cell hb]; rfl
  have HC := hidden hcall
  have HS := hidden hst
  have HG := hidden hg3
  have HP := hidden hp3
  have HT := hidden ht
  clear ht hg hp hlt hm hroom hb hrok hnew hcall hst hg3 hp3 hN' hix
  go_enter Yba.func14, Yba.ntmps14
  go_wp2_with fail
  go_quiet (fail)
  go_wp2_with fail
  go_region_held3 (fun w' => Fr (fun x => x = A) w w' ∧ w'.cell? ⟨T, 0, none⟩ = some (.slice (some ⟨A, 0, none⟩) N N) ∧ w'.cell? ⟨b, 0, none⟩ = some (.int .u8 k) ∧ w'.cell? ⟨b, 1, none⟩ = some (.int .u32 t) ∧ w'.cell? ⟨b, 2, none⟩ = some (.int .u64 y))
    ((refine held_put ?_ hT hbw hTA hbA t0 e0 e1 e2; first | exact Fr.refl _ _ | exact (Fr.refl _ _).drewN _ | exact (Fr.refl _ _).drew | exact ((Fr.refl _ _).drewN _).drew | exact Fr.ofNil (by assumption) | (refine Fr.setCell (Fr.ofNil (by assumption)) ?_ _; intro _; rfl)))
    (first | (go_at_call 15; refine (HC.out _ (by first | exact ((Fr.refl _ _).drewN _).drew | exact (Fr.refl _ _).drew)).mono ?_; rintro e w' ⟨rfl, f0⟩; have f : Fr Nil w w' := (by first | exact ((Fr.refl Nil _).drewN _).drew.trans f0 | exact (Fr.refl Nil _).drew.trans f0); clear f0; have hz := (HS.out w' f).1; have hc := (HS.out w' f).2.1; have q1 : w'.cell? ⟨T, 1, none⟩ = some (.int .i64 (m : Int)) := (World.cell?_of_block (f.block T hT (fun h => h))).trans t1; have q2 : w'.frozen? ⟨T, 1, none⟩ = false := (World.frozen?_of_block (f.block T hT (fun h => h))).trans (blk_frozen HT.out.tab 1)))
  go_wp2_with fail
  have f := (show Fr Nil w w' by assumption)
  go_end0
  exact ⟨rfl, _, bump (HS.out w' f).2.2 _, List.length_set, HG.out, HP.out, ((Fr.ofNil f).setCell (p := ⟨A, ix, none⟩) (fun _ => .inr rfl) _).setCell (p := ⟨T, 1, none⟩) (fun _ => .inl rfl) _⟩

set_option maxHeartbeats 1000000 in
/-- the table grows first -/
theorem add_grow (w : World) (T A : Nat) (S : List (Option Ent)) (s0 s1 : Int) (p0 p1 : Value) (sp : Int) (m : Nat) (ht : Tab w T A S (m : Int) s0 s1 p0 p1 sp) (hg : plain.Good S (hN s0 s1)) (p : Nat) (hp : S.length = 2 ^ p) (hp' : p ≤ 38)
    (hm : (S.filterMap id).length = m) (hold : m * 4 ≤ S.length * 3) (hroom : S.length * 3 < (m + 1) * 4) (b : Nat) (k t y : Int) (hb : w.heap[b]? = some (.cells (headC (k, t, y)) 39)) (hrok : Rok (k, t, y)) (hnew : ∀ b', (b', (k, t, y)) ∉ S.filterMap id) :
    Calls Yba.prog 14 #[.pointer (some ⟨T, 0, none⟩), .pointer (some ⟨b, 0, none⟩)] w fun e w' => e = .returned (.tuple #[]) ∧ ∃ A' S', Tab w' T A' S' ((m : Int) + 1) s0 s1 p0 p1 sp ∧ S'.length = 2 * S.length ∧ plain.Good S' (hN s0 s1) ∧ (S'.filterMap id).Perm ((b, (k, t, y)) :: S.filterMap id) ∧
      w.heap.size ≤ A' ∧ Fr (fun x => x = T) w w' := by
  have hlt : 2 ^ p ≤ 2 ^ 38 := Nat.pow_le_pow_right (by decide) hp'
  have hpos : 0 < 2 ^ p := Nat.two_pow_pos p
  have HRS := fun w' (f : Fr Nil w w') => resize_at w' T A S (m : Int) s0 s1 p0 p1 sp (ht.nil f) hg p hp (by omega) (2 * S.length) rfl
  obtain ⟨N, hN'⟩ : ∃ N, N = S.length := ⟨_, rfl⟩
  have HN : Hid (N = S.length) := hN'
  obtain ⟨M, hM'⟩ : ∃ M, M = 2 * S.length := ⟨_, rfl⟩
  have HM : Hid (M = 2 * S.length) := hM'
  have HPW : Hid (M = 2 ^ (p + 1)) := by show M = 2 ^ (p + 1); rw [Nat.pow_succ]; omega
  have HMm : Hid (m < M ∧ (2 : Int) * (N : Int) = (M : Int)) := ⟨by omega, by omega⟩
  have m2 : (M : Int) ≤ 1099511627776 := by omega
  have n2 : (N : Int) ≤ 1099511627776 := by omega
  have mm2 : (m : Int) ≤ 1099511627776 := by omega
  have hroom' : (N : Int) * 3 < ((m : Int) + 1) * 4 := by omega
  rw [← hM'] at HRS
  have hT := blk_lt ht.tab
  have t0 : w.cell? ⟨T, 0, none⟩ = some (.slice (some ⟨A, 0, none⟩) N N) := by rw [blk_cell ht.tab, hN']; rfl
  have t1 : w.cell? ⟨T, 1, none⟩ = some (.int .i64 (m : Int)) := by rw [blk_cell ht.tab]; rfl
  have HR := hidden HRS
  have HB := hidden (show w.heap[b]? = some (.cells (headC (k, t, y)) 39) ∧ Rok (k, t, y) ∧ T ≠ b ∧ (∀ b', (b', (k, t, y)) ∉ S.filterMap id) ∧ (S.filterMap id).length = m from ⟨hb, hrok, blk_ne ht.tab hb (by decide), hnew, hm⟩)
  clear ht hg hp hlt hpos hm hroom hold hb hrok hnew hN' hM' HRS
  go_enter Yba.func14, Yba.ntmps14
  go_wp2_with fail
  go_quiet (fail)
  go_wp2_with fail
  refine (HR.out _ ((Fr.refl _ _).drewN _) _ HMm.out.2).mono ?_
  rintro e w1 ⟨rfl, A1, S1, ht1, hl1, hg1, hperm, hA1, hf1⟩
  obtain ⟨hb, hrok, hTb, hnew, hm⟩ := HB.out
  have hf2 : Fr (fun x => x = T) w w1 := ((Fr.refl _ _).drewN _).trans hf1
  have hb1 : w1.heap[b]? = some (.cells (headC (k, t, y)) 39) := hf2.blk hb (fun e => hTb e.symm)
  obtain ⟨ix, hix, hcall, hst, hg3, hp3⟩ := place ht1 hg1 (p + 1) (by rw [hl1]; exact HPW.out) (by omega) (by rw [hperm.length_eq, hm, hl1]; exact HMm.out.1) b k t y hb1 hrok (fun b' h => hnew b' (hperm.mem_iff.1 h))
  have i1 : (0 : Int) ≤ (ix : Int) := by omega
  have i2 : (ix : Int) < (M : Int) := by omega
  have hT1 := blk_lt ht1.tab
  have hbw1 := blk_lt hb1
  have hTA : T ≠ A1 := ht1.ne
  have hTA' : A1 ≠ T := ht1.ne.symm
  have hbA : b ≠ A1 := fun e => blk_ne ht1.arr hb1 (by decide) e.symm
  have t0' : w1.cell? ⟨T, 0, none⟩ = some (.slice (some ⟨A1, 0, none⟩) M M) := by rw [blk_cell ht1.tab, hl1]; rfl
  have t1' : w1.cell? ⟨T, 1, none⟩ = some (.int .i64 (m : Int)) := by rw [blk_cell ht1.tab]; rfl
  have e0 : w1.cell? ⟨b, 0, none⟩ = some (.int .u8 k) := by rw [blk_cell hb1]; rfl
  have e1 : w1.cell? ⟨b, 1, none⟩ = some (.int .u32 t) := by rw [blk_cell hb1]; rfl
  have e2 : w1.cell? ⟨b, 2, none⟩ = some (.int .u64 y) := by rw [blk_cell hb1]; rfl
  have HC := hidden hcall
  have HS := hidden hst
  have HG := hidden hg3
  have HP := hidden (hp3.trans (List.Perm.cons _ hperm))
  have HT1 := hidden ht1
  have HL := hidden (show S1.length = M ∧ w.heap.size ≤ A1 ∧ Fr (fun x => x = T) w w1 from ⟨hl1, hA1, hf2⟩)
  clear ht1 hl1 hg1 hperm hA1 hf1 hb hrok hTb hnew hm hf2 hb1 hix hcall hst hg3 hp3 t0 t1
  go_wp2_with fail
  go_region_held3 (fun w' => Fr (fun x => x = A1) w1 w' ∧ w'.cell? ⟨T, 0, none⟩ = some (.slice (some ⟨A1, 0, none⟩) M M) ∧ w'.cell? ⟨b, 0, none⟩ = some (.int .u8 k) ∧ w'.cell? ⟨b, 1, none⟩ = some (.int .u32 t) ∧ w'.cell? ⟨b, 2, none⟩ = some (.int .u64 y))
    ((refine held_put ?_ hT1 hbw1 hTA hbA t0' e0 e1 e2; first | exact Fr.refl _ _ | exact (Fr.refl _ _).drew | exact Fr.ofNil (by assumption) | (refine Fr.setCell (Fr.ofNil (by assumption)) ?_ _; intro _; rfl)))
    (first | (go_at_call 15; refine (HC.out _ (by exact (Fr.refl _ _).drew)).mono ?_; rintro e w' ⟨rfl, f0⟩; have f : Fr Nil w1 w' := (Fr.refl Nil _).drew.trans f0; clear f0; have hz := (HS.out w' f).1; have hc := (HS.out w' f).2.1; have q1 : w'.cell? ⟨T, 1, none⟩ = some (.int .i64 (m : Int)) := (World.cell?_of_block (f.block T hT1 (fun h => h))).trans t1'; have q2 : w'.frozen? ⟨T, 1, none⟩ = false := (World.frozen?_of_block (f.block T hT1 (fun h => h))).trans (blk_frozen HT1.out.tab 1)))
  go_wp2_with fail
  have f := (show Fr Nil w1 w' by assumption)
  go_end0
  exact ⟨rfl, A1, _, bump (HS.out w' f).2.2 _, by rw [List.length_set, HL.out.1]; exact HM.out, HG.out, HP.out, HL.out.2.1, ((HL.out.2.2.trans (Fr.ofNil f)).setCell (p := ⟨A1, ix, none⟩) (fun h => absurd h (Nat.not_lt.2 HL.out.2.1)) _).setCell (p := ⟨T, 1, none⟩) (fun _ => rfl) _⟩

/-- N places for m entries -/
def Size (N m : Nat) : Prop := (∃ p, p ≤ 38 ∧ N = 2 ^ p) ∧ 8 ≤ N ∧ m * 4 ≤ N * 3 ∧ (N = 8 ∨ N * 3 < m * 8)

/-- THE TABLE, ITS LAWS AND ITS SIZE -/
structure Inv (w : World) (T A : Nat) (S : List (Option Ent)) (m : Nat) (s0 s1 : Int) (p0 p1 : Value) (sp : Int) : Prop where
  tab : Tab w T A S (m : Int) s0 s1 p0 p1 sp
  good : plain.Good S (hN s0 s1)
  len : (S.filterMap id).length = m
  size : Size S.length m

theorem Inv.nil {w w' : World} {T A : Nat} {S : List (Option Ent)} {m : Nat} {s0 s1 : Int} {p0 p1 : Value} {sp : Int} (h : Inv w T A S m s0 s1 p0 p1 sp) (f : Fr Nil w w') : Inv w' T A S m s0 s1 p0 p1 sp :=
  ⟨h.tab.nil f, h.good, h.len, h.size⟩

theorem Inv.free {w : World} {T A : Nat} {S : List (Option Ent)} {m : Nat} {s0 s1 : Int} {p0 p1 : Value} {sp : Int} (h : Inv w T A S m s0 s1 p0 p1 sp) : (S.filterMap id).length < S.length := by
  have := h.len; have := h.size.2.2.1; have := h.size.2.1; omega

theorem add_any (w : World) (T A : Nat) (S : List (Option Ent)) (s0 s1 : Int) (p0 p1 : Value) (sp : Int) (m : Nat) (hi : Inv w T A S m s0 s1 p0 p1 sp) (hm : m < 1024)
    (b : Nat) (k t y : Int) (hb : w.heap[b]? = some (.cells (headC (k, t, y)) 39)) (hrok : Rok (k, t, y)) (hnew : ∀ b', (b', (k, t, y)) ∉ S.filterMap id) :
    Calls Yba.prog 14 #[.pointer (some ⟨T, 0, none⟩), .pointer (some ⟨b, 0, none⟩)] w fun e w' => e = .returned (.tuple #[]) ∧ ∃ A' S', Inv w' T A' S' (m + 1) s0 s1 p0 p1 sp ∧ (S'.filterMap id).Perm ((b, (k, t, y)) :: S.filterMap id) ∧
      (A' = A ∨ w.heap.size ≤ A') ∧ Fr (fun x => x = T ∨ x = A) w w' := by
  obtain ⟨⟨p, hp', hp⟩, h8, h34, hsz⟩ := hi.size
  by_cases hroom : (m + 1) * 4 ≤ S.length * 3
  · refine (add_room w T A S s0 s1 p0 p1 sp m hi.tab hi.good p hp hp' hi.len hroom b k t y hb hrok hnew).mono ?_
    rintro e w' ⟨rfl, S', h1, h2, h3, h4, h5⟩
    refine ⟨rfl, A, S', ⟨h1, h3, ?_, ?_⟩, h4, .inl rfl, h5⟩
    · rw [h4.length_eq, List.length_cons, hi.len]
    · rw [h2]
      exact ⟨⟨p, hp', hp⟩, h8, hroom, by omega⟩
  · have hp11 : p < 11 := by
      rcases Nat.lt_or_ge p 11 with h | h
      · exact h
      · have : 2 ^ 11 ≤ 2 ^ p := Nat.pow_le_pow_right (by decide) h
        omega
    refine (add_grow w T A S s0 s1 p0 p1 sp m hi.tab hi.good p hp hp' hi.len h34 (by omega) b k t y hb hrok hnew).mono ?_
    rintro e w' ⟨rfl, A', S', h1, h2, h3, h4, h5, h6⟩
    refine ⟨rfl, A', S', ⟨h1, h3, ?_, ?_⟩, h4, .inr h5, h6.mono (fun _ h => .inl h)⟩
    · rw [h4.length_eq, List.length_cons, hi.len]
    · rw [h2]
      exact ⟨⟨p + 1, by omega, by rw [Nat.pow_succ]; omega⟩, by omega, by omega, .inr (by omega)⟩
end Go.Proofs.Ybulkbrno.add
