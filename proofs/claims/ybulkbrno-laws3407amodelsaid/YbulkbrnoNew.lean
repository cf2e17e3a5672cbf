/-
  'head' at a resource that was never asked for: what becomes of the law's state; and the state behind the two appends.
-/
import Derived.Test.YbulkbrnoPtr
namespace Go.Proofs.Ybulkbrno.new0
open Go.ChangeShapes Go.WideShapes Go.ChangeAt Go.RowKit plain mem slot add head state

theorem eql_pre {w : World} {b : Nat} {c : Array Value} {q : Option Nat} (hb : w.heap[b]? = some (.cells c 39)) (hq : ∀ x, q = some x → ∃ c, w.heap[x]? = some (.cells c 39)) (hne : q ≠ some b) : (binOp .eql 29 (.pointer (some ⟨b, 0, none⟩)) (pt q)).run Yba.prog w = .ok (.bool false) w := by
  cases q with
  | none =>
    show (binOp .eql 29 (.pointer (some ⟨b, 0, none⟩)) (.pointer none)).run Yba.prog w = _
    go_simp
  | some x =>
    obtain ⟨c', hc'⟩ := hq x rfl
    exact ptrs.eql_other b x w (fun e => hne (by rw [e])) hb hc'

theorem info35 : (Yba.prog.info? 35).map (fun i => (i.zero, i.size, i.bytes)) = some (some (.agg #[.int .u8 0, .int .u32 0, .int .u64 0]), 3, 16) := by kernel_rfl

section
variable {w0 : World} {T P : Nat} {s0 s1 : Int} {q0 q1 : Option Nat} {w : World} {n A : Nat} {S : List (Option Ent)} {K : List Ent} {p0 p1 : Value} {ak ah : Option Addr} {ck ch : Nat}

/-- the two rows behind a step that turned the table, its places and one head alone -/
theorem rows_kept {sp : Int} {w' : World} {A' : Nat} {X : Nat → Prop} (st : St w0 T P s0 s1 q0 q1 w n A S K p0 p1 sp) (rw' : Rw w0 w A K ak ah ck ch) (f : Fr X w w') (hX : ∀ x, X x → x = T ∨ x = A ∨ ∃ c, w.heap[x]? = some (.cells c 39)) (hA : A' = A ∨ w.heap.size ≤ A') : Rw w0 w' A' K ak ah ck ch := by
  have hk : ∀ a, ak = some a → ∃ c, w.heap[a.block]? = some (.cells c 35) := by
    rintro a rfl
    exact (own_type rw'.keys (g := a.block) rfl).2
  have hh : ∀ a, ah = some a → ∃ c, w.heap[a.block]? = some (.cells c 29) := by
    rintro a rfl
    exact (own_type rw'.heads (g := a.block) rfl).2
  have h := rw'.frame f (fun a ha hx => by
    obtain ⟨c, hc⟩ := hk a ha
    rcases hX _ hx with e | e | ⟨c', e⟩
    · exact blk_ne hc st.inv.tab.tab (by decide) e
    · exact blk_ne hc st.inv.tab.arr (by decide) e
    · rw [hc] at e; cases e) (fun a ha hx => by
    obtain ⟨c, hc⟩ := hh a ha
    rcases hX _ hx with e | e | ⟨c', e⟩
    · exact blk_ne hc st.inv.tab.tab (by decide) e
    · exact rw'.ne a ha e
    · rw [hc] at e; cases e)
  refine ⟨h.keys, h.heads, ?_⟩
  intro a ha e
  obtain ⟨c, hc⟩ := hh a ha
  have := blk_lt hc
  rcases hA with hA | hA
  · exact rw'.ne a ha (e.trans hA)
  · omega

theorem head_new (st : St w0 T P s0 s1 q0 q1 w n A S K p0 p1 (n : Int)) (rw' : Rw w0 w A K ak ah ck ch) (hn : n ≤ 2) (hK : K.length < 1024) (k t y : Int) (hrok : Rok (k, t, y)) (hnew : ∀ b, (b, (k, t, y)) ∉ K) :
    Calls Yba.prog 7 #[.pointer (some ⟨T, 0, none⟩), .agg #[.int .u8 k, .int .u32 t, .int .u64 y]] w fun e w' => ∃ (b n' A' : Nat) (S' : List (Option Ent)) (p0' p1' : Value), e = .returned (.pointer (some ⟨b, 0, none⟩)) ∧
      St w0 T P s0 s1 q0 q1 w' n' A' S' (K ++ [(b, (k, t, y))]) p0' p1' (n' : Int) ∧ Rw w0 w' A' K ak ah ck ch ∧ (∀ r, (b, r) ∉ K) ∧ (∀ (x : Nat) (c : Array Value), w.heap[x]? = some (.cells c 35) → w'.heap[x]? = some (.cells c 35)) ∧
      ((n = 0 ∧ n' = 0 ∧ q0 ≠ some b ∧ q1 ≠ some b) ∨ (n = 1 ∧ n' = 0 ∧ q0 = some b ∧ p0' = .pointer none) ∨ (n = 2 ∧ n' = 1 ∧ q1 = some b ∧ p1' = .pointer none)) := by
  have hnewS : ∀ b, (b, (k, t, y)) ∉ S.filterMap id := fun b h => hnew b (st.perm.mem_iff.1 h)
  have hcase : n = 0 ∨ n = 1 ∨ n = 2 := by omega
  rcases hcase with rfl | rfl | rfl
  · refine (head_fresh w T A S s0 s1 p0 p1 K.length st.inv hK k t y hrok hnewS).mono ?_
    rintro e w' ⟨b, A', S', rfl, hi, hp, hb, hA, f⟩
    have hold : ∀ c : Nat, (∃ x, w.heap[c]? = some (Obj.cells x 39)) → c ≠ b := by
      rintro c ⟨x, hx⟩ rfl
      have := blk_lt hx
      omega
    refine ⟨b, 0, A', S', p0, p1, rfl, st.fresh hi hp hA f, rows_kept st rw' f (fun x hx => hx.elim .inl (fun h => .inr (.inl h))) hA, ?_, ?_, .inl ⟨rfl, rfl, fun e => hold b (st.q0l b e) rfl, fun e => hold b (st.q1l b e) rfl⟩⟩
    · intro r hm
      exact hold b ⟨_, (st.lies hm).1⟩ rfl
    · intro x c hx
      refine f.blk hx ?_
      rintro (e | e)
      · exact blk_ne hx st.inv.tab.tab (by decide) e
      · exact blk_ne hx st.inv.tab.arr (by decide) e
  · obtain ⟨b, e1, rfl, e3, e4, e5⟩ := st.sp0 (Nat.le_refl _)
    refine (head_spare0 w T A S s0 s1 p1 b K.length st.inv hK (0, 0, 0) e4 (fun r h => e5 r (st.perm.mem_iff.1 h)) k t y hrok hnewS).mono ?_
    rintro e w' ⟨A', S', rfl, hi, hp, hA, f⟩
    refine ⟨b, 0, A', S', _, _, rfl, st.used e4 e3 hi hp hA f (fun h => by omega) (by omega), rows_kept st rw' f ?_ hA, e5, ?_, .inr (.inl ⟨rfl, rfl, e1, rfl⟩)⟩
    · rintro x ((h | h) | h)
      · exact .inl h
      · exact .inr (.inl h)
      · exact .inr (.inr ⟨_, by rw [h]; exact e4⟩)
    · intro x c hx
      refine f.blk hx ?_
      rintro ((e | e) | e)
      · exact blk_ne hx st.inv.tab.tab (by decide) e
      · exact blk_ne hx st.inv.tab.arr (by decide) e
      · exact blk_ne hx e4 (by decide) e
  · obtain ⟨b, e1, rfl, e3, e4, e5⟩ := st.sp1 (Nat.le_refl _)
    obtain ⟨c0, d1, rfl, d3, d4, d5⟩ := st.sp0 (by omega)
    have hne : c0 ≠ b := fun e => st.spn (Nat.le_refl _) (by rw [d1, e1, e])
    refine (head_spare1 w T A S s0 s1 _ b K.length st.inv hK (0, 0, 0) e4 (fun r h => e5 r (st.perm.mem_iff.1 h)) k t y hrok hnewS).mono ?_
    rintro e w' ⟨A', S', rfl, hi, hp, hA, f⟩
    refine ⟨b, 1, A', S', _, _, rfl, st.used e4 e3 hi hp hA f ?_ (by omega), rows_kept st rw' f ?_ hA, e5, ?_, .inr (.inr ⟨rfl, rfl, e1, rfl⟩)⟩
    · intro _
      refine ⟨c0, d1, rfl, d3, f.blk d4 ?_, ?_⟩
      · rintro ((e | e) | e)
        · exact blk_ne d4 st.inv.tab.tab (by decide) e
        · exact blk_ne d4 st.inv.tab.arr (by decide) e
        · exact hne e
      · intro r' hm
        rcases List.mem_append.1 hm with h | h
        · exact d5 r' h
        · simp at h
          exact hne h.1
    · rintro x ((h | h) | h)
      · exact .inl h
      · exact .inr (.inl h)
      · exact .inr (.inr ⟨_, by rw [h]; exact e4⟩)
    · intro x c hx
      refine f.blk hx ?_
      rintro ((e | e) | e)
      · exact blk_ne hx st.inv.tab.tab (by decide) e
      · exact blk_ne hx st.inv.tab.arr (by decide) e
      · exact blk_ne hx e4 (by decide) e

/-- behind 'keys = append(keys, r)' -/
theorem app_keys {sp : Int} {K' : List Ent} {w1 : World} {o : Obj} (st : St w0 T P s0 s1 q0 q1 w n A S K' p0 p1 sp) (rw' : Rw w0 w A K ak ah ck ch) (hg : (w.alloc o).grownBy w1 (Value.slice ak K.length ck).ownBlock) :
    St w0 T P s0 s1 q0 q1 w1 n A S K' p0 p1 sp ∧ w1.ownsRow w0.heap.size 29 1 (.slice ah K.length ch) K.length (headsC K) := by
  have f1 : Fr Nil w (w.alloc o) := (Fr.refl _ _).alloc _
  have st1 := st.nil f1
  have rw1 := rw'.nil f1
  refine ⟨st1.row hg ?_, rw1.heads.kept hg ?_⟩
  · intro k hk
    obtain ⟨h1, c, hc⟩ := own_type rw1.keys hk
    exact ⟨h1, blk_ne hc st1.inv.tab.arr (by decide), c, 35, hc, by decide, by decide, by decide, by decide⟩
  · cases ah with
    | none => exact .inl rfl
    | some a =>
      right
      obtain ⟨_, c, hc⟩ := own_type rw1.heads (g := a.block) rfl
      intro e
      obtain ⟨_, c', hc'⟩ := own_type rw1.keys (g := a.block) e.symm
      rw [hc] at hc'
      cases hc'

/-- behind 'heads = append(heads, h)' -/
theorem app_heads {sp : Int} {K' : List Ent} {w2 : World} {o : Obj} {e : Ent} {gk gh capk caph H : Nat} (st : St w0 T P s0 s1 q0 q1 w n A S K' p0 p1 sp) (hne : ∀ a, ah = some a → a.block ≠ A)
    (hk : w.ownsRow w0.heap.size 35 3 (.slice (some ⟨gk, 0, none⟩) (K.length + 1) capk) (K.length + 1) (keysC K ++ [.int .u8 e.2.1, .int .u32 e.2.2.1, .int .u64 e.2.2.2]))
    (hh : w.ownsRow w0.heap.size 29 1 (.slice ah K.length ch) K.length (headsC K))
    (hg : (w.alloc o).grownBy w2 (Value.slice ah K.length ch).ownBlock) (hat : (Value.slice ah K.length ch).ownBlock = some gh ∨ gh = H) (hH : w.heap.size < H)
    (hown : w2.ownsRow w0.heap.size 29 1 (.slice (some ⟨gh, 0, none⟩) (K.length + 1) caph) (K.length + 1) (headsC K ++ [.pointer (some ⟨e.1, 0, none⟩)])) :
    St w0 T P s0 s1 q0 q1 w2 n A S K' p0 p1 sp ∧ Rw w0 w2 A (K ++ [e]) (some ⟨gk, 0, none⟩) (some ⟨gh, 0, none⟩) capk caph := by
  have f1 : Fr Nil w (w.alloc o) := (Fr.refl _ _).alloc _
  have st1 := st.nil f1
  have hk1 := own_fr hk f1 (fun _ _ h => h)
  have hh1 := own_fr hh f1 (fun _ _ h => h)
  refine ⟨st1.row hg ?_, ?_, ?_, ?_⟩
  · intro k hk
    obtain ⟨h1, c, hc⟩ := own_type hh1 hk
    refine ⟨h1, ?_, c, 29, hc, by decide, by decide, by decide, by decide⟩
    cases ah with
    | none => cases hk
    | some a => cases hk; exact hne a rfl
  · rw [keysC_snoc, List.length_append]
    refine hk1.kept hg (.inr ?_)
    intro e'
    obtain ⟨_, c, hc⟩ := own_type hk1 (g := gk) rfl
    obtain ⟨_, c', hc'⟩ := own_type hh1 (g := gk) e'.symm
    rw [hc] at hc'
    cases hc'
  · rw [headsC_snoc, List.length_append]
    exact hown
  · intro a ha e'
    cases ha
    rcases hat with h | h
    · cases ah with
      | none => cases h
      | some a => cases h; exact hne a rfl e'
    · have := blk_lt st.inv.tab.arr
      have e'' : gh = A := e'
      omega
end
end Go.Proofs.Ybulkbrno.new0
