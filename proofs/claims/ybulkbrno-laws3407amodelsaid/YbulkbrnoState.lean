/-
  What the law LawS3407AModel carries from round to round, and how each call turns it.
-/
import Derived.Test.YbulkbrnoHead
import Derived.Deep.AppendLies
namespace Go.Proofs.Ybulkbrno.state
open Go.ChangeShapes Go.WideShapes Go.ChangeAt Go.RowKit plain mem slot add head

def pt : Option Nat → Value
  | none => .pointer none
  | some b => .pointer (some ⟨b, 0, none⟩)

/-- w0: the world at the call; T: the table; P: the array 'pre', which holds q0, q1; n: the spares that are left; K: the heads given out, in order, each with its resource -/
structure St (w0 : World) (T P : Nat) (s0 s1 : Int) (q0 q1 : Option Nat) (w : World) (n : Nat) (A : Nat) (S : List (Option Ent)) (K : List Ent) (p0 p1 : Value) (sp : Int) : Prop where
  bel : Below w0.heap.size w0 w
  kin : w.heap[w0.heap.size]? = some (.cells #[.int .u8 1, .int .u8 2, .int .u8 3] 25)
  inv : Inv w T A S K.length s0 s1 p0 p1 sp
  perm : (S.filterMap id).Perm K
  pre : w.heap[P]? = some (.cells #[pt q0, pt q1] 30)
  q0l : ∀ b, q0 = some b → ∃ c, w.heap[b]? = some (.cells c 39)
  q1l : ∀ b, q1 = some b → ∃ c, w.heap[b]? = some (.cells c 39)
  sp0 : 1 ≤ n → ∃ b, q0 = some b ∧ p0 = pt (some b) ∧ w0.heap.size ≤ b ∧ w.heap[b]? = some (.cells (headC (0, 0, 0)) 39) ∧ ∀ r, (b, r) ∉ K
  sp1 : 2 ≤ n → ∃ b, q1 = some b ∧ p1 = pt (some b) ∧ w0.heap.size ≤ b ∧ w.heap[b]? = some (.cells (headC (0, 0, 0)) 39) ∧ ∀ r, (b, r) ∉ K
  spn : 2 ≤ n → q0 ≠ q1
  hT : w0.heap.size ≤ T
  hA : w0.heap.size ≤ A
  hP : w0.heap.size ≤ P

section
variable {w0 : World} {T P : Nat} {s0 s1 : Int} {q0 q1 : Option Nat} {w w' : World} {n A : Nat} {S : List (Option Ent)} {K : List Ent} {p0 p1 : Value} {sp : Int}

theorem St.size (h : St w0 T P s0 s1 q0 q1 w n A S K p0 p1 sp) : w0.heap.size ≤ w.heap.size := h.bel.size

/-- a step that turns none of the blocks that count -/
theorem St.frame {X : Nat → Prop} (h : St w0 T P s0 s1 q0 q1 w n A S K p0 p1 sp) (f : Fr X w w')
    (hX : ∀ x, X x → w0.heap.size ≤ x ∧ x ≠ w0.heap.size ∧ x ≠ T ∧ x ≠ A ∧ x ≠ P ∧ ∀ c, w.heap[x]? ≠ some (.cells c 39)) : St w0 T P s0 s1 q0 q1 w' n A S K p0 p1 sp := by
  have hhead : ∀ b c, w.heap[b]? = some (.cells c 39) → ¬ X b := fun b c hb hx => (hX b hx).2.2.2.2.2 c hb
  refine ⟨h.bel.trans (f.below (fun k hk => (hX k hk).1) h.size), f.blk h.kin (fun hx => (hX _ hx).2.1 rfl), ⟨h.inv.tab.fr f (fun hx => (hX _ hx).2.2.1 rfl) (fun hx => (hX _ hx).2.2.2.1 rfl) (fun b r hm => hhead b _ (h.inv.tab.head b r hm).1), h.inv.good, h.inv.len, h.inv.size⟩, h.perm,
    f.blk h.pre (fun hx => (hX _ hx).2.2.2.2.1 rfl), fun b hb => (h.q0l b hb).elim fun c hc => ⟨c, f.blk hc (hhead b c hc)⟩, fun b hb => (h.q1l b hb).elim fun c hc => ⟨c, f.blk hc (hhead b c hc)⟩, ?_, ?_, h.spn, h.hT, h.hA, h.hP⟩
  · intro h1
    obtain ⟨b, e1, e2, e3, e4, e5⟩ := h.sp0 h1
    exact ⟨b, e1, e2, e3, f.blk e4 (hhead b _ e4), e5⟩
  · intro h1
    obtain ⟨b, e1, e2, e3, e4, e5⟩ := h.sp1 h1
    exact ⟨b, e1, e2, e3, f.blk e4 (hhead b _ e4), e5⟩

theorem St.nil (h : St w0 T P s0 s1 q0 q1 w n A S K p0 p1 sp) (f : Fr Nil w w') : St w0 T P s0 s1 q0 q1 w' n A S K p0 p1 sp :=
  h.frame f (fun _ hx => hx.elim)

/-- an append onto a row of the call's own -/
theorem St.row {row : Option Nat} (h : St w0 T P s0 s1 q0 q1 w n A S K p0 p1 sp) (g : w.grownBy w' row)
    (hrow : ∀ k, row = some k → w0.heap.size ≤ k ∧ k ≠ A ∧ ∃ c t, w.heap[k]? = some (.cells c t) ∧ t ≠ 25 ∧ t ≠ 32 ∧ t ≠ 30 ∧ t ≠ 39) : St w0 T P s0 s1 q0 q1 w' n A S K p0 p1 sp := by
  refine h.frame ((Fr.refl (fun k => row = some k) w).grown g (fun k hk _ => hk)) ?_
  intro x hx
  obtain ⟨h1, h2, c, t, hb, t1, t2, t3, t4⟩ := hrow x hx
  exact ⟨h1, blk_ne hb h.kin t1, blk_ne hb h.inv.tab.tab t2, h2, blk_ne hb h.pre t3, fun c' hc => by rw [hb] at hc; cases hc; exact t4 rfl⟩

/-- the heads that were given out lie in memory -/
theorem St.lies (h : St w0 T P s0 s1 q0 q1 w n A S K p0 p1 sp) {b : Nat} {r : Res} (hm : (b, r) ∈ K) : w.heap[b]? = some (.cells (headC r) 39) ∧ Rok r :=
  h.inv.tab.head b r (h.perm.mem_iff.2 hm)

theorem perm_snoc {l K : List Ent} {L : List Ent} {e : Ent} (h : l.Perm K) (h' : L.Perm (e :: l)) : L.Perm (K ++ [e]) :=
  (h'.trans (List.Perm.cons e h)).trans (List.perm_append_singleton e K).symm

/-- a fresh head was made -/
theorem St.fresh (h : St w0 T P s0 s1 q0 q1 w 0 A S K p0 p1 sp) {b A' : Nat} {S' : List (Option Ent)} {r : Res} (hi : Inv w' T A' S' (K.length + 1) s0 s1 p0 p1 sp) (hp : (S'.filterMap id).Perm ((b, r) :: S.filterMap id))
    (hA : A' = A ∨ w.heap.size ≤ A') (f : Fr (fun x => x = T ∨ x = A) w w') : St w0 T P s0 s1 q0 q1 w' 0 A' S' (K ++ [(b, r)]) p0 p1 sp := by
  have hTA : ∀ (b : Nat) c, w.heap[b]? = some (Obj.cells c 39) → ¬ (b = T ∨ b = A) := by
    rintro b c hc (e | e)
    · exact blk_ne hc h.inv.tab.tab (by decide) e
    · exact blk_ne hc h.inv.tab.arr (by decide) e
  refine ⟨h.bel.trans (f.below ?_ h.size), f.blk h.kin ?_, ?_, perm_snoc h.perm hp, f.blk h.pre ?_, fun b hb => (h.q0l b hb).elim fun c hc => ⟨c, f.blk hc (hTA b c hc)⟩, fun b hb => (h.q1l b hb).elim fun c hc => ⟨c, f.blk hc (hTA b c hc)⟩, fun h0 => by omega, fun h0 => by omega, fun h0 => by omega, h.hT, ?_, h.hP⟩
  · rintro k (rfl | rfl)
    · exact h.hT
    · exact h.hA
  · rintro (e | e)
    · exact blk_ne h.kin h.inv.tab.tab (by decide) e
    · exact blk_ne h.kin h.inv.tab.arr (by decide) e
  · rw [List.length_append]; exact hi
  · rintro (e | e)
    · exact blk_ne h.pre h.inv.tab.tab (by decide) e
    · exact blk_ne h.pre h.inv.tab.arr (by decide) e
  · have := h.hA
    have := h.size
    omega

/-- a spare was handed out: the common part -/
theorem St.used (h : St w0 T P s0 s1 q0 q1 w n A S K p0 p1 sp) {b A' : Nat} {S' : List (Option Ent)} {r : Res} {p0' p1' : Value} {sp' : Int} {n' : Nat} (hb : w.heap[b]? = some (.cells (headC (0, 0, 0)) 39)) (hbl : w0.heap.size ≤ b)
    (hi : Inv w' T A' S' (K.length + 1) s0 s1 p0' p1' sp') (hp : (S'.filterMap id).Perm ((b, r) :: S.filterMap id))
    (hA : A' = A ∨ w.heap.size ≤ A') (f : Fr (fun x => (x = T ∨ x = A) ∨ x = b) w w')
    (h0 : 1 ≤ n' → ∃ c, q0 = some c ∧ p0' = pt (some c) ∧ w0.heap.size ≤ c ∧ w'.heap[c]? = some (.cells (headC (0, 0, 0)) 39) ∧ ∀ r', (c, r') ∉ K ++ [(b, r)]) (hn : n' ≤ 1) : St w0 T P s0 s1 q0 q1 w' n' A' S' (K ++ [(b, r)]) p0' p1' sp' := by
  have hq : ∀ c : Nat, (∃ x, w.heap[c]? = some (Obj.cells x 39)) → ∃ x, w'.heap[c]? = some (Obj.cells x 39) := by
    rintro c ⟨x, hx⟩
    by_cases e : c = b
    · rw [e]
      exact ⟨_, (hi.tab.head b r (hp.mem_iff.2 (List.mem_cons_self ..))).1⟩
    · refine ⟨x, f.blk hx ?_⟩
      rintro ((e' | e') | e')
      · exact blk_ne hx h.inv.tab.tab (by decide) e'
      · exact blk_ne hx h.inv.tab.arr (by decide) e'
      · exact e e'
  refine ⟨h.bel.trans (f.below ?_ h.size), f.blk h.kin ?_, ?_, perm_snoc h.perm hp, f.blk h.pre ?_, fun c hc => hq c (h.q0l c hc), fun c hc => hq c (h.q1l c hc), h0, fun h0 => by omega, fun h0 => by omega, h.hT, ?_, h.hP⟩
  · rintro k ((rfl | rfl) | rfl)
    · exact h.hT
    · exact h.hA
    · exact hbl
  · rintro ((e | e) | e)
    · exact blk_ne h.kin h.inv.tab.tab (by decide) e
    · exact blk_ne h.kin h.inv.tab.arr (by decide) e
    · exact blk_ne h.kin hb (by decide) e
  · rw [List.length_append]; exact hi
  · rintro ((e | e) | e)
    · exact blk_ne h.pre h.inv.tab.tab (by decide) e
    · exact blk_ne h.pre h.inv.tab.arr (by decide) e
    · exact blk_ne h.pre hb (by decide) e
  · have := h.hA
    have := h.size
    omega

/-- a row of the call's own, carried on -/
theorem own_fr {X : Nat → Prop} {base : Nat} {e : TypeId} {size : Nat} {v : Value} {m : Nat} {xs : List Value} (h : w.ownsRow base e size v m xs) (f : Fr X w w') (hne : ∀ g, v.ownBlock = some g → ¬ X g) : w'.ownsRow base e size v m xs := by
  refine ⟨h.1, ?_⟩
  rcases h.2 with h0 | ⟨g, cap, cur, rfl, h2, h3, h4⟩
  · exact .inl h0
  · exact .inr ⟨g, cap, cur, rfl, h2, f.blk h3 (hne g rfl), h4⟩

theorem own_type {base : Nat} {e : TypeId} {size : Nat} {v : Value} {m : Nat} {xs : List Value} (h : w.ownsRow base e size v m xs) {g : Nat} (hg : v.ownBlock = some g) : base ≤ g ∧ ∃ c, w.heap[g]? = some (.cells c e) := by
  rcases h.2 with ⟨rfl, _⟩ | ⟨g', cap, cur, rfl, h2, h3, h4⟩
  · cases hg
  · cases hg
    exact ⟨h2, cur, h3⟩
end

/-! ### THE TWO ROWS: the keys, the heads -/
def keysC (K : List Ent) : List Value := K.flatMap fun e => [.int .u8 e.2.1, .int .u32 e.2.2.1, .int .u64 e.2.2.2]
def headsC (K : List Ent) : List Value := K.map fun e => .pointer (some ⟨e.1, 0, none⟩)

theorem keysC_at (K : List Ent) (j : Nat) (hj : j < K.length) : (keysC K)[j * 3]? = some (.int .u8 K[j].2.1) ∧ (keysC K)[j * 3 + 1]? = some (.int .u32 K[j].2.2.1) ∧ (keysC K)[j * 3 + 2]? = some (.int .u64 K[j].2.2.2) := by
  induction K generalizing j with
  | nil => simp at hj
  | cons e K ih =>
    cases j with
    | zero => simp [keysC]
    | succ j =>
      have := ih j (by simpa using hj)
      have e1 : (j + 1) * 3 = j * 3 + 3 := by omega
      simp only [keysC, List.flatMap_cons, e1, List.getElem_cons_succ] at this ⊢
      exact this
theorem keysC_snoc (K : List Ent) (e : Ent) : keysC (K ++ [e]) = keysC K ++ [.int .u8 e.2.1, .int .u32 e.2.2.1, .int .u64 e.2.2.2] := by simp [keysC]
theorem headsC_snoc (K : List Ent) (e : Ent) : headsC (K ++ [e]) = headsC K ++ [.pointer (some ⟨e.1, 0, none⟩)] := by simp [headsC]

structure Rw (w0 w : World) (A : Nat) (K : List Ent) (ak ah : Option Addr) (ck ch : Nat) : Prop where
  keys : w.ownsRow w0.heap.size 35 3 (.slice ak K.length ck) K.length (keysC K)
  heads : w.ownsRow w0.heap.size 29 1 (.slice ah K.length ch) K.length (headsC K)
  ne : ∀ a, ah = some a → a.block ≠ A

theorem addr_add (g j : Nat) : (⟨g, 0, none⟩ : Addr).add j = ⟨g, j, none⟩ := by unfold Addr.add; split <;> simp_all

theorem Rw.key {w0 w : World} {A : Nat} {K : List Ent} {ak ah : Option Addr} {ck ch : Nat} (h : Rw w0 w A K ak ah ck ch) {j : Nat} (hj : j < K.length) :
    ∃ g, ak = some ⟨g, 0, none⟩ ∧ w.cell? ⟨g, j * 3, none⟩ = some (.int .u8 K[j].2.1) ∧ w.cell? ⟨g, j * 3 + 1, none⟩ = some (.int .u32 K[j].2.2.1) ∧ w.cell? ⟨g, j * 3 + 2, none⟩ = some (.int .u64 K[j].2.2.2) := by
  obtain ⟨g, cap, hv, _, _⟩ := h.keys.form (by omega)
  simp only [Value.slice.injEq] at hv
  obtain ⟨rfl, _, _⟩ := hv
  obtain ⟨c0, c1, c2⟩ := keysC_at K j hj
  have hc := h.keys.cells (g := g) rfl
  refine ⟨g, rfl, ?_, ?_, ?_⟩
  · have := hc _ _ c0; rwa [addr_add] at this
  · have := hc _ _ c1; rwa [addr_add] at this
  · have := hc _ _ c2; rwa [addr_add] at this

theorem Rw.head {w0 w : World} {A : Nat} {K : List Ent} {ak ah : Option Addr} {ck ch : Nat} (h : Rw w0 w A K ak ah ck ch) {j : Nat} (hj : j < K.length) :
    ∃ g, ah = some ⟨g, 0, none⟩ ∧ w.cell? ⟨g, j, none⟩ = some (.pointer (some ⟨K[j].1, 0, none⟩)) := by
  obtain ⟨g, cap, hv, _, _⟩ := h.heads.form (by omega)
  simp only [Value.slice.injEq] at hv
  obtain ⟨rfl, _, _⟩ := hv
  have hc := h.heads.cells (g := g) rfl j (.pointer (some ⟨K[j].1, 0, none⟩)) (by simp [headsC, hj])
  rw [addr_add] at hc
  exact ⟨g, rfl, hc⟩

theorem Rw.frame {X : Nat → Prop} {w0 w w' : World} {A : Nat} {K : List Ent} {ak ah : Option Addr} {ck ch : Nat} (h : Rw w0 w A K ak ah ck ch) (f : Fr X w w') (hk : ∀ a, ak = some a → ¬ X a.block) (hh : ∀ a, ah = some a → ¬ X a.block) : Rw w0 w' A K ak ah ck ch :=
  ⟨own_fr h.keys f (fun g hg => by cases ak with | none => cases hg | some a => cases hg; exact hk a rfl), own_fr h.heads f (fun g hg => by cases ah with | none => cases hg | some a => cases hg; exact hh a rfl), h.ne⟩
theorem Rw.nil {w0 w w' : World} {A : Nat} {K : List Ent} {ak ah : Option Addr} {ck ch : Nat} (h : Rw w0 w A K ak ah ck ch) (f : Fr Nil w w') : Rw w0 w' A K ak ah ck ch :=
  h.frame f (fun _ _ h => h) (fun _ _ h => h)
end Go.Proofs.Ybulkbrno.state
