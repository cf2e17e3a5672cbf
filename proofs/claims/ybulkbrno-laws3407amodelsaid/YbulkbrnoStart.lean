/-
  The law's state at its start, behind each spare that is laid, and behind the count of the spares.
-/
import Derived.Test.YbulkbrnoState
namespace Go.Proofs.Ybulkbrno.begin0
open Go.ChangeShapes Go.WideShapes Go.ChangeAt Go.RowKit plain mem slot add head state

theorem size0 : Size (List.replicate 8 (none : Option Ent)).length 0 := ⟨⟨3, by decide, by simp⟩, by simp, by simp, .inl (by simp)⟩

theorem st_start (w : World) (s0 s1 : Int) :
    St w (w.heap.size + 1 + 1) (w.heap.size + 1 + 1 + 1) s0 s1 none none
      ((((w.alloc (.cells #[.int .u8 1, .int .u8 2, .int .u8 3] 25)).alloc (.cells (madeCells #[.pointer none] 8) 29)).alloc
        (.cells #[.slice (some ⟨w.heap.size + 1, 0, none⟩) 8 8, .int .i64 0, .int .u64 s0, .int .u64 s1, .pointer none, .pointer none, .int .i64 0] 32)).alloc (.cells #[.pointer none, .pointer none] 30))
      0 (w.heap.size + 1) (List.replicate 8 none) [] (.pointer none) (.pointer none) 0 := by
  have z1 : (w.alloc (.cells #[.int .u8 1, .int .u8 2, .int .u8 3] 25)).heap.size = w.heap.size + 1 := World.size_alloc _ _
  have z2 : ((w.alloc (.cells #[.int .u8 1, .int .u8 2, .int .u8 3] 25)).alloc (.cells (madeCells #[.pointer none] 8) 29)).heap.size = w.heap.size + 1 + 1 := by rw [World.size_alloc, z1]
  refine ⟨((((Below.refl _ w).alloc (Nat.le_refl _) _).alloc (by omega) _).alloc (by omega) _).alloc (by rw [World.size_alloc]; omega) _, ?_, ⟨⟨?_, ?_, ?_⟩, good_nil _ _, ?_, size0⟩, ?_, ?_, fun b h => (by cases h), fun b h => (by cases h), fun h => by omega, fun h => by omega, fun h => by omega, by omega, by omega, by omega⟩
  · exact blk_alloc (blk_alloc (blk_alloc (blk_new w _) _) _) _
  · have := blk_new ((w.alloc (.cells #[.int .u8 1, .int .u8 2, .int .u8 3] 25)).alloc (.cells (madeCells #[.pointer none] 8) 29)) (.cells #[.slice (some ⟨w.heap.size + 1, 0, none⟩) 8 8, .int .i64 0, .int .u64 s0, .int .u64 s1, .pointer none, .pointer none, .int .i64 0] 32)
    rw [z2] at this
    exact blk_alloc this _
  · have := blk_new (w.alloc (.cells #[.int .u8 1, .int .u8 2, .int .u8 3] 25)) (.cells (madeCells #[.pointer none] 8) 29)
    rw [z1] at this
    rw [← resize.made_nil]
    exact blk_alloc (blk_alloc this _) _
  · intro b r hm
    rw [fm_nil] at hm
    cases hm
  · rw [fm_nil]
  · rw [fm_nil]
  · have := blk_new (((w.alloc (.cells #[.int .u8 1, .int .u8 2, .int .u8 3] 25)).alloc (.cells (madeCells #[.pointer none] 8) 29)).alloc
        (.cells #[.slice (some ⟨w.heap.size + 1, 0, none⟩) 8 8, .int .i64 0, .int .u64 s0, .int .u64 s1, .pointer none, .pointer none, .int .i64 0] 32)) (.cells #[.pointer none, .pointer none] 30)
    rw [World.size_alloc, z2] at this
    exact this

section
variable {w0 : World} {T P : Nat} {s0 s1 : Int} {q0 q1 : Option Nat} {w : World} {n A : Nat} {S : List (Option Ent)} {p0 p1 : Value} {sp : Int}

/-- the first spare is laid -/
theorem take0 (h : St w0 T P s0 s1 q0 q1 w 0 A S [] p0 p1 sp) :
    St w0 T P s0 s1 (some w.heap.size) q1 (((w.setCell ⟨P, 0, none⟩ (.pointer (some ⟨w.heap.size, 0, none⟩))).setCell ⟨T, 4, none⟩ (.pointer (some ⟨w.heap.size, 0, none⟩))).alloc
      (.cells #[.int .u8 0, .int .u32 0, .int .u64 0, .slice none 0 0, .pointer none] 39)) 1 A S [] (.pointer (some ⟨w.heap.size, 0, none⟩)) p1 sp := by
  have hPT : P ≠ T := blk_ne h.pre h.inv.tab.tab (by decide)
  have hAT : A ≠ T := h.inv.tab.ne.symm
  have hAP : A ≠ P := blk_ne h.inv.tab.arr h.pre (by decide)
  have hkT : w0.heap.size ≠ T := blk_ne h.kin h.inv.tab.tab (by decide)
  have hkP : w0.heap.size ≠ P := blk_ne h.kin h.pre (by decide)
  have hfm : S.filterMap id = [] := h.perm.eq_nil
  refine ⟨((h.bel.setCell h.hP _).setCell h.hT _).alloc (by rw [World.size_setCell, World.size_setCell]; exact h.size) _, ?_, ⟨⟨?_, ?_, ?_⟩, h.inv.good, h.inv.len, h.inv.size⟩, h.perm, ?_, ?_, ?_, ?_, fun h => by omega, fun h => by omega, h.hT, h.hA, h.hP⟩
  · exact blk_alloc (blk_set_other (blk_set_other h.kin hkP _) hkT _) _
  · exact blk_alloc (blk_set (blk_set_other h.inv.tab.tab hPT.symm _) 4 _) _
  · exact blk_alloc (blk_set_other (blk_set_other h.inv.tab.arr hAP _) hAT _) _
  · intro b r hm
    rw [hfm] at hm
    cases hm
  · exact blk_alloc (blk_set_other (blk_set h.pre 0 _) hPT _) _
  · intro b hb
    cases hb
    have := blk_new ((w.setCell ⟨P, 0, none⟩ (.pointer (some ⟨w.heap.size, 0, none⟩))).setCell ⟨T, 4, none⟩ (.pointer (some ⟨w.heap.size, 0, none⟩))) (.cells #[.int .u8 0, .int .u32 0, .int .u64 0, .slice none 0 0, .pointer none] 39)
    rw [World.size_setCell, World.size_setCell] at this
    exact ⟨_, this⟩
  · intro b hb
    obtain ⟨c, hc⟩ := h.q1l b hb
    exact ⟨c, blk_alloc (blk_set_other (blk_set_other hc (blk_ne hc h.pre (by decide)) _) (blk_ne hc h.inv.tab.tab (by decide)) _) _⟩
  · intro _
    refine ⟨w.heap.size, rfl, rfl, h.size, ?_, fun r hm => by cases hm⟩
    have := blk_new ((w.setCell ⟨P, 0, none⟩ (.pointer (some ⟨w.heap.size, 0, none⟩))).setCell ⟨T, 4, none⟩ (.pointer (some ⟨w.heap.size, 0, none⟩))) (.cells #[.int .u8 0, .int .u32 0, .int .u64 0, .slice none 0 0, .pointer none] 39)
    rw [World.size_setCell, World.size_setCell] at this
    exact this

/-- the second spare is laid -/
theorem take1 (h : St w0 T P s0 s1 q0 q1 w 1 A S [] p0 p1 sp) :
    St w0 T P s0 s1 q0 (some w.heap.size) (((w.setCell ⟨P, 1, none⟩ (.pointer (some ⟨w.heap.size, 0, none⟩))).setCell ⟨T, 5, none⟩ (.pointer (some ⟨w.heap.size, 0, none⟩))).alloc
      (.cells #[.int .u8 0, .int .u32 0, .int .u64 0, .slice none 0 0, .pointer none] 39)) 2 A S [] p0 (.pointer (some ⟨w.heap.size, 0, none⟩)) sp := by
  have hPT : P ≠ T := blk_ne h.pre h.inv.tab.tab (by decide)
  have hAT : A ≠ T := h.inv.tab.ne.symm
  have hAP : A ≠ P := blk_ne h.inv.tab.arr h.pre (by decide)
  have hkT : w0.heap.size ≠ T := blk_ne h.kin h.inv.tab.tab (by decide)
  have hkP : w0.heap.size ≠ P := blk_ne h.kin h.pre (by decide)
  have hfm : S.filterMap id = [] := h.perm.eq_nil
  refine ⟨((h.bel.setCell h.hP _).setCell h.hT _).alloc (by rw [World.size_setCell, World.size_setCell]; exact h.size) _, ?_, ⟨⟨?_, ?_, ?_⟩, h.inv.good, h.inv.len, h.inv.size⟩, h.perm, ?_, ?_, ?_, ?_, ?_, ?_, h.hT, h.hA, h.hP⟩
  · exact blk_alloc (blk_set_other (blk_set_other h.kin hkP _) hkT _) _
  · exact blk_alloc (blk_set (blk_set_other h.inv.tab.tab hPT.symm _) 5 _) _
  · exact blk_alloc (blk_set_other (blk_set_other h.inv.tab.arr hAP _) hAT _) _
  · intro b r hm
    rw [hfm] at hm
    cases hm
  · exact blk_alloc (blk_set_other (blk_set h.pre 1 _) hPT _) _
  · intro b hb
    obtain ⟨c, hc⟩ := h.q0l b hb
    exact ⟨c, blk_alloc (blk_set_other (blk_set_other hc (blk_ne hc h.pre (by decide)) _) (blk_ne hc h.inv.tab.tab (by decide)) _) _⟩
  · intro b hb
    cases hb
    have := blk_new ((w.setCell ⟨P, 1, none⟩ (.pointer (some ⟨w.heap.size, 0, none⟩))).setCell ⟨T, 5, none⟩ (.pointer (some ⟨w.heap.size, 0, none⟩))) (.cells #[.int .u8 0, .int .u32 0, .int .u64 0, .slice none 0 0, .pointer none] 39)
    rw [World.size_setCell, World.size_setCell] at this
    exact ⟨_, this⟩
  · intro _
    obtain ⟨b, e1, e2, e3, e4, e5⟩ := h.sp0 (Nat.le_refl _)
    exact ⟨b, e1, e2, e3, blk_alloc (blk_set_other (blk_set_other e4 (blk_ne e4 h.pre (by decide)) _) (blk_ne e4 h.inv.tab.tab (by decide)) _) _, e5⟩
  · intro _
    refine ⟨w.heap.size, rfl, rfl, h.size, ?_, fun r hm => by cases hm⟩
    have := blk_new ((w.setCell ⟨P, 1, none⟩ (.pointer (some ⟨w.heap.size, 0, none⟩))).setCell ⟨T, 5, none⟩ (.pointer (some ⟨w.heap.size, 0, none⟩))) (.cells #[.int .u8 0, .int .u32 0, .int .u64 0, .slice none 0 0, .pointer none] 39)
    rw [World.size_setCell, World.size_setCell] at this
    exact this
  · intro _ e
    obtain ⟨b, e1, _⟩ := h.sp0 (Nat.le_refl _)
    obtain ⟨c, hc⟩ := h.q0l b e1
    have := blk_lt hc
    rw [e1] at e
    cases e
    omega

/-- the spares are counted -/
theorem count {K : List Ent} (h : St w0 T P s0 s1 q0 q1 w n A S K p0 p1 sp) (m : Int) : St w0 T P s0 s1 q0 q1 (w.setCell ⟨T, 6, none⟩ (.int .i64 m)) n A S K p0 p1 m := by
  have hPT : P ≠ T := blk_ne h.pre h.inv.tab.tab (by decide)
  have hAT : A ≠ T := h.inv.tab.ne.symm
  have hkT : w0.heap.size ≠ T := blk_ne h.kin h.inv.tab.tab (by decide)
  refine ⟨h.bel.setCell h.hT _, blk_set_other h.kin hkT _, ⟨⟨blk_set h.inv.tab.tab 6 _, blk_set_other h.inv.tab.arr hAT _, fun b r hm => ⟨blk_set_other (h.inv.tab.head b r hm).1 (h.inv.tab.ne_head hm).1.symm _, (h.inv.tab.head b r hm).2⟩⟩, h.inv.good, h.inv.len, h.inv.size⟩, h.perm, blk_set_other h.pre hPT _, ?_, ?_, ?_, ?_, h.spn, h.hT, h.hA, h.hP⟩
  · intro b hb
    obtain ⟨c, hc⟩ := h.q0l b hb
    exact ⟨c, blk_set_other hc (blk_ne hc h.inv.tab.tab (by decide)) _⟩
  · intro b hb
    obtain ⟨c, hc⟩ := h.q1l b hb
    exact ⟨c, blk_set_other hc (blk_ne hc h.inv.tab.tab (by decide)) _⟩
  · intro h1
    obtain ⟨b, e1, e2, e3, e4, e5⟩ := h.sp0 h1
    exact ⟨b, e1, e2, e3, blk_set_other e4 (blk_ne e4 h.inv.tab.tab (by decide)) _, e5⟩
  · intro h1
    obtain ⟨b, e1, e2, e3, e4, e5⟩ := h.sp1 h1
    exact ⟨b, e1, e2, e3, blk_set_other e4 (blk_ne e4 h.inv.tab.tab (by decide)) _, e5⟩
end
end Go.Proofs.Ybulkbrno.begin0
