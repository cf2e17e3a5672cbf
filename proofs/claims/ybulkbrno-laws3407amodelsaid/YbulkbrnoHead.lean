/-
  The contract of '(*lockTable).head' (function 7).
-/
import Derived.Test.YbulkbrnoAdd
namespace Go.Proofs.Ybulkbrno.head
open Go.ChangeShapes Go.WideShapes Go.ChangeAt Go.RowKit plain mem slot add

/-- r has a head: that very head -/
theorem head_old (w : World) (T A : Nat) (S : List (Option Ent)) (s0 s1 : Int) (p0 p1 : Value) (sp : Int) (m : Nat) (hi : Inv w T A S m s0 s1 p0 p1 sp) (b : Nat) (k t y : Int) (hb : (b, (k, t, y)) ∈ S.filterMap id) :
    Calls Yba.prog 7 #[.pointer (some ⟨T, 0, none⟩), .agg #[.int .u8 k, .int .u32 t, .int .u64 y]] w fun e w' => e = .returned (.pointer (some ⟨b, 0, none⟩)) ∧ Fr Nil w w' := by
  obtain ⟨p, hp', hp⟩ := hi.size.1
  have HC := hidden (fun w' (f : Fr Nil w w') => find_yes w' T A S (m : Int) s0 s1 p0 p1 sp (hi.tab.nil f) hi.good k t y p hp (by omega) b hb)
  clear hi hb hp hp'
  go_enter Yba.func7, Yba.ntmps7
  go_wp2_with fail
  refine (HC.out _ ((Fr.refl _ _).alloc _)).mono ?_
  rintro e w1 ⟨rfl, f1⟩
  go_wp2_with fail
  go_ret
  exact ⟨rfl, ((Fr.refl _ _).alloc _).trans f1⟩

/-- a new resource, no spare: a fresh head -/
theorem head_fresh (w : World) (T A : Nat) (S : List (Option Ent)) (s0 s1 : Int) (p0 p1 : Value) (m : Nat) (hi : Inv w T A S m s0 s1 p0 p1 0) (hm : m < 1024) (k t y : Int) (hrok : Rok (k, t, y)) (hnew : ∀ b', (b', (k, t, y)) ∉ S.filterMap id) :
    Calls Yba.prog 7 #[.pointer (some ⟨T, 0, none⟩), .agg #[.int .u8 k, .int .u32 t, .int .u64 y]] w fun e w' => ∃ b A' S', e = .returned (.pointer (some ⟨b, 0, none⟩)) ∧ Inv w' T A' S' (m + 1) s0 s1 p0 p1 0 ∧
      (S'.filterMap id).Perm ((b, (k, t, y)) :: S.filterMap id) ∧ w.heap.size ≤ b ∧ (A' = A ∨ w.heap.size ≤ A') ∧ Fr (fun x => x = T ∨ x = A) w w' := by
  obtain ⟨p, hp', hp⟩ := hi.size.1
  have HC := hidden (fun w' (f : Fr Nil w w') => find_no w' T A S (m : Int) s0 s1 p0 p1 0 (hi.tab.nil f) k t y hrok p hp (by omega) hi.free hnew)
  have HI := hidden hi
  clear hi hp hp'
  have HW := hidden hnew
  clear hnew
  go_enter Yba.func7, Yba.ntmps7
  go_wp2_with fail
  refine (HC.out _ ((Fr.refl _ _).alloc _)).mono ?_
  rintro e w1 ⟨rfl, f1⟩
  have bx := f1.blk (blk_new w _) (fun h => h)
  have b0 : w1.cell? ⟨w.heap.size, 0, none⟩ = some (.int .u8 k) := by rw [blk_cell bx]; rfl
  have b1 : w1.cell? ⟨w.heap.size, 1, none⟩ = some (.int .u32 t) := by rw [blk_cell bx]; rfl
  have b2 : w1.cell? ⟨w.heap.size, 2, none⟩ = some (.int .u64 y) := by rw [blk_cell bx]; rfl
  have f2 := ((Fr.refl Nil w).alloc (.cells #[.int .u8 k, .int .u32 t, .int .u64 y] 35)).trans f1
  have t6 : w1.cell? ⟨T, 6, none⟩ = some (.int .i64 0) := by rw [blk_cell (HI.out.nil f2).tab.tab]; rfl
  have F2 := hidden f2
  clear bx f1 f2
  go_wp2_with fail
  refine (add_any _ T A S s0 s1 p0 p1 0 m ((HI.out.nil F2.out).nil ((Fr.refl _ _).alloc _)) hm w1.heap.size k t y (blk_new w1 _) hrok HW.out).mono ?_
  rintro e w2 ⟨rfl, A', S', hi2, hp2, hA2, hf2⟩
  have HR := hidden (show Inv w2 T A' S' (m + 1) s0 s1 p0 p1 0 ∧ (S'.filterMap id).Perm ((w1.heap.size, (k, t, y)) :: S.filterMap id) ∧ w.heap.size ≤ w1.heap.size ∧ (A' = A ∨ w.heap.size ≤ A') ∧ Fr (fun x => x = T ∨ x = A) w w2 from by
    refine ⟨hi2, hp2, F2.out.size, ?_, ?_⟩
    · rcases hA2 with h | h
      · exact .inl h
      · right
        have := F2.out.size
        rw [World.size_alloc] at h
        omega
    · exact ((Fr.ofNil F2.out).alloc _).trans hf2)
  clear hi2 hp2 hA2 hf2 t6 b0 b1 b2
  go_wp2_with fail
  go_ret
  exact ⟨w1.heap.size, A', S', rfl, HR.out⟩

/-- the spare head at place 0 leaves the spares and is given its resource -/
theorem ready0 {w : World} {T A : Nat} {S : List (Option Ent)} {m : Nat} {s0 s1 : Int} {p1 : Value} {b : Nat} (h : Inv w T A S m s0 s1 (.pointer (some ⟨b, 0, none⟩)) p1 1) {r0 : Res} (hb : w.heap[b]? = some (.cells (headC r0) 39)) (hbS : ∀ r, (b, r) ∉ S.filterMap id) (n : Nat) (k t y : Int) :
    Inv ((((((w.setCell ⟨T, 6, none⟩ (.int .i64 0)).drewN n).setCell ⟨T, 4, none⟩ (.pointer none)).setCell ⟨b, 0, none⟩ (.int .u8 k)).setCell ⟨b, 1, none⟩ (.int .u32 t)).setCell ⟨b, 2, none⟩ (.int .u64 y)) T A S m s0 s1 (.pointer none) p1 0 ∧ ((((((w.setCell ⟨T, 6, none⟩ (.int .i64 0)).drewN n).setCell ⟨T, 4, none⟩ (.pointer none)).setCell ⟨b, 0, none⟩ (.int .u8 k)).setCell ⟨b, 1, none⟩ (.int .u32 t)).setCell ⟨b, 2, none⟩ (.int .u64 y)).heap[b]? = some (.cells (headC (k, t, y)) 39) ∧ Fr (fun x => x = T ∨ x = b) w ((((((w.setCell ⟨T, 6, none⟩ (.int .i64 0)).drewN n).setCell ⟨T, 4, none⟩ (.pointer none)).setCell ⟨b, 0, none⟩ (.int .u8 k)).setCell ⟨b, 1, none⟩ (.int .u32 t)).setCell ⟨b, 2, none⟩ (.int .u64 y)) := by
  have hTb : T ≠ b := blk_ne h.tab.tab hb (by decide)
  have hAb : A ≠ b := blk_ne h.tab.arr hb (by decide)
  have hTA : A ≠ T := h.tab.ne.symm
  refine ⟨⟨⟨?_, ?_, ?_⟩, h.good, h.len, h.size⟩, ?_, ?_⟩
  · exact blk_set_other (blk_set_other (blk_set_other (blk_set (blk_drewN (blk_set h.tab.tab 6 _) n) 4 _) hTb _) hTb _) hTb _
  · exact blk_set_other (blk_set_other (blk_set_other (blk_set_other (blk_drewN (blk_set_other h.tab.arr hTA _) n) hTA _) hAb _) hAb _) hAb _
  · intro b' r' hm
    have e1 : b' ≠ T := (h.tab.ne_head hm).1.symm
    have e2 : b' ≠ b := by rintro rfl; exact hbS r' hm
    exact ⟨blk_set_other (blk_set_other (blk_set_other (blk_set_other (blk_drewN (blk_set_other (h.tab.head b' r' hm).1 e1 _) n) e1 _) e2 _) e2 _) e2 _, (h.tab.head b' r' hm).2⟩
  · exact blk_set (blk_set (blk_set (blk_set_other (blk_drewN (blk_set_other hb hTb.symm _) n) hTb.symm _) 0 _) 1 _) 2 _
  · exact ((((((Fr.refl (fun x => x = T ∨ x = b) w).setCell (p := ⟨T, 6, none⟩) (fun _ => .inl rfl) _).drewN n).setCell (p := ⟨T, 4, none⟩) (fun _ => .inl rfl) _).setCell (p := ⟨b, 0, none⟩) (fun _ => .inr rfl) _).setCell (p := ⟨b, 1, none⟩) (fun _ => .inr rfl) _).setCell (p := ⟨b, 2, none⟩) (fun _ => .inr rfl) _

set_option maxHeartbeats 1000000 in
/-- a new resource, 1 spare(s): the last one kept -/
theorem head_spare0 (w : World) (T A : Nat) (S : List (Option Ent)) (s0 s1 : Int) (p1 : Value) (b : Nat) (m : Nat) (hi : Inv w T A S m s0 s1 (.pointer (some ⟨b, 0, none⟩)) p1 1) (hm : m < 1024) (r0 : Res) (hb : w.heap[b]? = some (.cells (headC r0) 39)) (hbS : ∀ r, (b, r) ∉ S.filterMap id)
    (k t y : Int) (hrok : Rok (k, t, y)) (hnew : ∀ b', (b', (k, t, y)) ∉ S.filterMap id) :
    Calls Yba.prog 7 #[.pointer (some ⟨T, 0, none⟩), .agg #[.int .u8 k, .int .u32 t, .int .u64 y]] w fun e w' => ∃ A' S', e = .returned (.pointer (some ⟨b, 0, none⟩)) ∧ Inv w' T A' S' (m + 1) s0 s1 (.pointer none) p1 0 ∧
      (S'.filterMap id).Perm ((b, (k, t, y)) :: S.filterMap id) ∧ (A' = A ∨ w.heap.size ≤ A') ∧ Fr (fun x => (x = T ∨ x = A) ∨ x = b) w w' := by
  obtain ⟨p, hp', hp⟩ := hi.size.1
  have HC := hidden (fun w' (f : Fr Nil w w') => find_no w' T A S (m : Int) s0 s1 (.pointer (some ⟨b, 0, none⟩)) p1 1 (hi.tab.nil f) k t y hrok p hp (by omega) hi.free hnew)
  have HI := hidden hi
  clear hp hp'
  have HW := hidden hnew
  have HB := hidden (show w.heap[b]? = some (.cells (headC r0) 39) ∧ (∀ r, (b, r) ∉ S.filterMap id) from ⟨hb, hbS⟩)
  have hT := blk_lt hi.tab.tab
  have hbw := blk_lt hb
  have hTb : T ≠ b := blk_ne hi.tab.tab hb (by decide)
  have hbT : b ≠ T := hTb.symm
  clear hnew hi hb hbS
  go_enter Yba.func7, Yba.ntmps7
  go_wp2_with fail
  refine (HC.out _ ((Fr.refl _ _).alloc _)).mono ?_
  rintro e w1 ⟨rfl, f1⟩
  have bx := f1.blk (blk_new w _) (fun h => h)
  have b0 : w1.cell? ⟨w.heap.size, 0, none⟩ = some (.int .u8 k) := by rw [blk_cell bx]; rfl
  have b1 : w1.cell? ⟨w.heap.size, 1, none⟩ = some (.int .u32 t) := by rw [blk_cell bx]; rfl
  have b2 : w1.cell? ⟨w.heap.size, 2, none⟩ = some (.int .u64 y) := by rw [blk_cell bx]; rfl
  have hxT : w.heap.size ≠ T := Nat.ne_of_gt hT
  have hxb : w.heap.size ≠ b := Nat.ne_of_gt hbw
  have f2 := ((Fr.refl Nil w).alloc (.cells #[.int .u8 k, .int .u32 t, .int .u64 y] 35)).trans f1
  have t6 : w1.cell? ⟨T, 6, none⟩ = some (.int .i64 1) := by rw [blk_cell (HI.out.nil f2).tab.tab]; rfl
  have t4 : w1.cell? ⟨T, 4, none⟩ = some (.pointer (some ⟨b, 0, none⟩)) := by rw [blk_cell (HI.out.nil f2).tab.tab]; rfl
  have z6 : w1.frozen? ⟨T, 6, none⟩ = false := blk_frozen (HI.out.nil f2).tab.tab _
  have z4 : w1.frozen? ⟨T, 4, none⟩ = false := blk_frozen (HI.out.nil f2).tab.tab _
  have hb1 := f2.blk HB.out.1 (fun h => h)
  have y0 : w1.frozen? ⟨b, 0, none⟩ = false := blk_frozen hb1 _
  have y1 : w1.frozen? ⟨b, 1, none⟩ = false := blk_frozen hb1 _
  have y2 : w1.frozen? ⟨b, 2, none⟩ = false := blk_frozen hb1 _
  have c0 : w1.cell? ⟨b, 0, none⟩ = some (.int .u8 r0.1) := by rw [blk_cell hb1]; rfl
  have c1 : w1.cell? ⟨b, 1, none⟩ = some (.int .u32 r0.2.1) := by rw [blk_cell hb1]; rfl
  have c2 : w1.cell? ⟨b, 2, none⟩ = some (.int .u64 r0.2.2) := by rw [blk_cell hb1]; rfl
  have F2 := hidden f2
  clear bx f1 f2 hb1
  go_wp2_with fail
  go_quiet (fail)
  go_wp2_with fail
  go_region
  go_wp2_with fail
  obtain ⟨i3, hb3, f3⟩ := ready0 (HI.out.nil F2.out) (F2.out.blk HB.out.1 (fun h => h)) HB.out.2 (nq + 1) k t y
  refine (add_any _ T A S s0 s1 (.pointer none) p1 0 m i3 hm b k t y hb3 hrok HW.out).mono ?_
  rintro e w2 ⟨rfl, A', S', hi2, hp2, hA2, hf2⟩
  have HR := hidden (show Inv w2 T A' S' (m + 1) s0 s1 (.pointer none) p1 0 ∧ (S'.filterMap id).Perm ((b, (k, t, y)) :: S.filterMap id) ∧ (A' = A ∨ w.heap.size ≤ A') ∧ Fr (fun x => (x = T ∨ x = A) ∨ x = b) w w2 from by
    refine ⟨hi2, hp2, ?_, ?_⟩
    · rcases hA2 with h | h
      · exact .inl h
      · right
        have := F2.out.size
        have := f3.size
        omega
    · exact ((Fr.ofNil F2.out).trans (f3.mono (fun _ h => h.elim (fun h => .inl (.inl h)) .inr))).trans (hf2.mono (fun _ h => .inl h)))
  clear hi2 hp2 hA2 hf2 i3 hb3 f3 t6 t4 z6 z4 y0 y1 y2 c0 c1 c2 b0 b1 b2
  go_wp2_with fail
  go_ret
  exact ⟨A', S', rfl, HR.out⟩

/-- the spare head at place 1 leaves the spares and is given its resource -/
theorem ready1 {w : World} {T A : Nat} {S : List (Option Ent)} {m : Nat} {s0 s1 : Int} {p0 : Value} {b : Nat} (h : Inv w T A S m s0 s1 p0 (.pointer (some ⟨b, 0, none⟩)) 2) {r0 : Res} (hb : w.heap[b]? = some (.cells (headC r0) 39)) (hbS : ∀ r, (b, r) ∉ S.filterMap id) (n : Nat) (k t y : Int) :
    Inv ((((((w.setCell ⟨T, 6, none⟩ (.int .i64 1)).drewN n).setCell ⟨T, 5, none⟩ (.pointer none)).setCell ⟨b, 0, none⟩ (.int .u8 k)).setCell ⟨b, 1, none⟩ (.int .u32 t)).setCell ⟨b, 2, none⟩ (.int .u64 y)) T A S m s0 s1 p0 (.pointer none) 1 ∧ ((((((w.setCell ⟨T, 6, none⟩ (.int .i64 1)).drewN n).setCell ⟨T, 5, none⟩ (.pointer none)).setCell ⟨b, 0, none⟩ (.int .u8 k)).setCell ⟨b, 1, none⟩ (.int .u32 t)).setCell ⟨b, 2, none⟩ (.int .u64 y)).heap[b]? = some (.cells (headC (k, t, y)) 39) ∧ Fr (fun x => x = T ∨ x = b) w ((((((w.setCell ⟨T, 6, none⟩ (.int .i64 1)).drewN n).setCell ⟨T, 5, none⟩ (.pointer none)).setCell ⟨b, 0, none⟩ (.int .u8 k)).setCell ⟨b, 1, none⟩ (.int .u32 t)).setCell ⟨b, 2, none⟩ (.int .u64 y)) := by
  have hTb : T ≠ b := blk_ne h.tab.tab hb (by decide)
  have hAb : A ≠ b := blk_ne h.tab.arr hb (by decide)
  have hTA : A ≠ T := h.tab.ne.symm
  refine ⟨⟨⟨?_, ?_, ?_⟩, h.good, h.len, h.size⟩, ?_, ?_⟩
  · exact blk_set_other (blk_set_other (blk_set_other (blk_set (blk_drewN (blk_set h.tab.tab 6 _) n) 5 _) hTb _) hTb _) hTb _
  · exact blk_set_other (blk_set_other (blk_set_other (blk_set_other (blk_drewN (blk_set_other h.tab.arr hTA _) n) hTA _) hAb _) hAb _) hAb _
  · intro b' r' hm
    have e1 : b' ≠ T := (h.tab.ne_head hm).1.symm
    have e2 : b' ≠ b := by rintro rfl; exact hbS r' hm
    exact ⟨blk_set_other (blk_set_other (blk_set_other (blk_set_other (blk_drewN (blk_set_other (h.tab.head b' r' hm).1 e1 _) n) e1 _) e2 _) e2 _) e2 _, (h.tab.head b' r' hm).2⟩
  · exact blk_set (blk_set (blk_set (blk_set_other (blk_drewN (blk_set_other hb hTb.symm _) n) hTb.symm _) 0 _) 1 _) 2 _
  · exact ((((((Fr.refl (fun x => x = T ∨ x = b) w).setCell (p := ⟨T, 6, none⟩) (fun _ => .inl rfl) _).drewN n).setCell (p := ⟨T, 5, none⟩) (fun _ => .inl rfl) _).setCell (p := ⟨b, 0, none⟩) (fun _ => .inr rfl) _).setCell (p := ⟨b, 1, none⟩) (fun _ => .inr rfl) _).setCell (p := ⟨b, 2, none⟩) (fun _ => .inr rfl) _

set_option maxHeartbeats 1000000 in
/-- a new resource, 2 spare(s): the last one kept -/
theorem head_spare1 (w : World) (T A : Nat) (S : List (Option Ent)) (s0 s1 : Int) (p0 : Value) (b : Nat) (m : Nat) (hi : Inv w T A S m s0 s1 p0 (.pointer (some ⟨b, 0, none⟩)) 2) (hm : m < 1024) (r0 : Res) (hb : w.heap[b]? = some (.cells (headC r0) 39)) (hbS : ∀ r, (b, r) ∉ S.filterMap id)
    (k t y : Int) (hrok : Rok (k, t, y)) (hnew : ∀ b', (b', (k, t, y)) ∉ S.filterMap id) :
    Calls Yba.prog 7 #[.pointer (some ⟨T, 0, none⟩), .agg #[.int .u8 k, .int .u32 t, .int .u64 y]] w fun e w' => ∃ A' S', e = .returned (.pointer (some ⟨b, 0, none⟩)) ∧ Inv w' T A' S' (m + 1) s0 s1 p0 (.pointer none) 1 ∧
      (S'.filterMap id).Perm ((b, (k, t, y)) :: S.filterMap id) ∧ (A' = A ∨ w.heap.size ≤ A') ∧ Fr (fun x => (x = T ∨ x = A) ∨ x = b) w w' := by
  obtain ⟨p, hp', hp⟩ := hi.size.1
  have HC := hidden (fun w' (f : Fr Nil w w') => find_no w' T A S (m : Int) s0 s1 p0 (.pointer (some ⟨b, 0, none⟩)) 2 (hi.tab.nil f) k t y hrok p hp (by omega) hi.free hnew)
  have HI := hidden hi
  clear hp hp'
  have HW := hidden hnew
  have HB := hidden (show w.heap[b]? = some (.cells (headC r0) 39) ∧ (∀ r, (b, r) ∉ S.filterMap id) from ⟨hb, hbS⟩)
  have hT := blk_lt hi.tab.tab
  have hbw := blk_lt hb
  have hTb : T ≠ b := blk_ne hi.tab.tab hb (by decide)
  have hbT : b ≠ T := hTb.symm
  clear hnew hi hb hbS
  go_enter Yba.func7, Yba.ntmps7
  go_wp2_with fail
  refine (HC.out _ ((Fr.refl _ _).alloc _)).mono ?_
  rintro e w1 ⟨rfl, f1⟩
  have bx := f1.blk (blk_new w _) (fun h => h)
  have b0 : w1.cell? ⟨w.heap.size, 0, none⟩ = some (.int .u8 k) := by rw [blk_cell bx]; rfl
  have b1 : w1.cell? ⟨w.heap.size, 1, none⟩ = some (.int .u32 t) := by rw [blk_cell bx]; rfl
  have b2 : w1.cell? ⟨w.heap.size, 2, none⟩ = some (.int .u64 y) := by rw [blk_cell bx]; rfl
  have hxT : w.heap.size ≠ T := Nat.ne_of_gt hT
  have hxb : w.heap.size ≠ b := Nat.ne_of_gt hbw
  have f2 := ((Fr.refl Nil w).alloc (.cells #[.int .u8 k, .int .u32 t, .int .u64 y] 35)).trans f1
  have t6 : w1.cell? ⟨T, 6, none⟩ = some (.int .i64 2) := by rw [blk_cell (HI.out.nil f2).tab.tab]; rfl
  have t4 : w1.cell? ⟨T, 5, none⟩ = some (.pointer (some ⟨b, 0, none⟩)) := by rw [blk_cell (HI.out.nil f2).tab.tab]; rfl
  have z6 : w1.frozen? ⟨T, 6, none⟩ = false := blk_frozen (HI.out.nil f2).tab.tab _
  have z4 : w1.frozen? ⟨T, 5, none⟩ = false := blk_frozen (HI.out.nil f2).tab.tab _
  have hb1 := f2.blk HB.out.1 (fun h => h)
  have y0 : w1.frozen? ⟨b, 0, none⟩ = false := blk_frozen hb1 _
  have y1 : w1.frozen? ⟨b, 1, none⟩ = false := blk_frozen hb1 _
  have y2 : w1.frozen? ⟨b, 2, none⟩ = false := blk_frozen hb1 _
  have c0 : w1.cell? ⟨b, 0, none⟩ = some (.int .u8 r0.1) := by rw [blk_cell hb1]; rfl
  have c1 : w1.cell? ⟨b, 1, none⟩ = some (.int .u32 r0.2.1) := by rw [blk_cell hb1]; rfl
  have c2 : w1.cell? ⟨b, 2, none⟩ = some (.int .u64 r0.2.2) := by rw [blk_cell hb1]; rfl
  have F2 := hidden f2
  clear bx f1 f2 hb1
  go_wp2_with fail
  go_quiet (fail)
  go_wp2_with fail
  go_region
  go_wp2_with fail
  obtain ⟨i3, hb3, f3⟩ := ready1 (HI.out.nil F2.out) (F2.out.blk HB.out.1 (fun h => h)) HB.out.2 (nq + 1) k t y
  refine (add_any _ T A S s0 s1 p0 (.pointer none) 1 m i3 hm b k t y hb3 hrok HW.out).mono ?_
  rintro e w2 ⟨rfl, A', S', hi2, hp2, hA2, hf2⟩
  have HR := hidden (show Inv w2 T A' S' (m + 1) s0 s1 p0 (.pointer none) 1 ∧ (S'.filterMap id).Perm ((b, (k, t, y)) :: S.filterMap id) ∧ (A' = A ∨ w.heap.size ≤ A') ∧ Fr (fun x => (x = T ∨ x = A) ∨ x = b) w w2 from by
    refine ⟨hi2, hp2, ?_, ?_⟩
    · rcases hA2 with h | h
      · exact .inl h
      · right
        have := F2.out.size
        have := f3.size
        omega
    · exact ((Fr.ofNil F2.out).trans (f3.mono (fun _ h => h.elim (fun h => .inl (.inl h)) .inr))).trans (hf2.mono (fun _ h => .inl h)))
  clear hi2 hp2 hA2 hf2 i3 hb3 f3 t6 t4 z6 z4 y0 y1 y2 c0 c1 c2 b0 b1 b2
  go_wp2_with fail
  go_ret
  exact ⟨A', S', rfl, HR.out⟩

end Go.Proofs.Ybulkbrno.head
