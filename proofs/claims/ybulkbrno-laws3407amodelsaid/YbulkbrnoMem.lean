/-
  The lock table in memory: blocks known whole, frames, and 'Tab': block T is the lockTable, block A its slots, the heads lie in blocks of their own.
-/
import Derived.Test.YbulkbrnoPlain
import Derived.Test.YbulkbrnoHash
import Derived.Deep.QuietTactic
import Derived.BigQuiet
namespace Go.Proofs.Ybulkbrno.mem
open Go.ChangeShapes Go.WideShapes Go.ChangeAt Go.RowKit plain

/-- w' is w, but for the blocks in X and new ones -/
structure Fr (X : Nat → Prop) (w w' : World) : Prop where
  os : w'.os = w.os
  tape : w'.tape = w.tape
  output : w'.output = w.output
  size : w.heap.size ≤ w'.heap.size
  block : ∀ k, k < w.heap.size → ¬ X k → w'.heap[k]? = w.heap[k]?

/-- nothing old has turned -/
def Nil : Nat → Prop := fun _ => False

theorem Fr.refl (X : Nat → Prop) (w : World) : Fr X w w := ⟨rfl, rfl, rfl, Nat.le_refl _, fun _ _ _ => rfl⟩
theorem Fr.trans {X : Nat → Prop} {a b c : World} (h : Fr X a b) (k : Fr X b c) : Fr X a c :=
  ⟨k.os.trans h.os, k.tape.trans h.tape, k.output.trans h.output, Nat.le_trans h.size k.size, fun i hi hx => (k.block i (Nat.lt_of_lt_of_le hi h.size) hx).trans (h.block i hi hx)⟩
/-- the second step may turn what the first made -/
theorem Fr.trans' {X Y : Nat → Prop} {a b c : World} (h : Fr X a b) (k : Fr Y b c) (hY : ∀ i, i < a.heap.size → Y i → X i) : Fr X a c :=
  ⟨k.os.trans h.os, k.tape.trans h.tape, k.output.trans h.output, Nat.le_trans h.size k.size, fun i hi hx => (k.block i (Nat.lt_of_lt_of_le hi h.size) (fun hy => hx (hY i hi hy))).trans (h.block i hi hx)⟩
theorem Fr.mono {X Y : Nat → Prop} {a b : World} (h : Fr X a b) (hY : ∀ i, X i → Y i) : Fr Y a b :=
  ⟨h.os, h.tape, h.output, h.size, fun i hi hx => h.block i hi (fun hy => hx (hY i hy))⟩
theorem Fr.ofNil {X : Nat → Prop} {a b : World} (h : Fr Nil a b) : Fr X a b := h.mono (fun _ h => h.elim)
theorem Fr.drew {X : Nat → Prop} {a b : World} (h : Fr X a b) : Fr X a b.drew := ⟨h.os, h.tape, h.output, h.size, h.block⟩
theorem Fr.drewN {X : Nat → Prop} {a b : World} (h : Fr X a b) (n : Nat) : Fr X a (b.drewN n) := ⟨h.os, h.tape, h.output, h.size, h.block⟩
theorem Fr.alloc {X : Nat → Prop} {a b : World} (h : Fr X a b) (o : Obj) : Fr X a (b.alloc o) :=
  ⟨h.os, h.tape, h.output, by have := h.size; simp; omega, fun i hi hx => (Below.heap_alloc b o i (Nat.lt_of_lt_of_le hi h.size)).trans (h.block i hi hx)⟩
theorem Fr.setCell {X : Nat → Prop} {a b : World} (h : Fr X a b) {p : Addr} (hp : p.block < a.heap.size → X p.block) (u : Value) : Fr X a (b.setCell p u) :=
  ⟨h.os, h.tape, h.output, by have := h.size; simpa using this, fun i hi hx => (Below.heap_setCell b p u i (fun e => hx (e ▸ hp (e ▸ hi)))).trans (h.block i hi hx)⟩
theorem Fr.grown {X : Nat → Prop} {a b c : World} {row : Option Nat} (h : Fr X a b) (hg : b.grownBy c row) (hr : ∀ k, row = some k → k < a.heap.size → X k) : Fr X a c :=
  ⟨hg.os.trans h.os, hg.tape.trans h.tape, hg.output.trans h.output, Nat.le_trans h.size hg.size, fun i hi hx => (hg.block i (Nat.lt_of_lt_of_le hi h.size) (fun e => hx (hr i e.symm hi))).trans (h.block i hi hx)⟩
theorem Fr.below {X : Nat → Prop} {B : Nat} {w w' : World} (h : Fr X w w') (hB : ∀ k, X k → B ≤ k) (hs : B ≤ w.heap.size) : Below B w w' :=
  ⟨h.os, h.tape, h.output, h.size, fun k hk => h.block k (by omega) (fun hx => by have := hB k hx; omega)⟩
/-- a block that is known whole, carried on -/
theorem Fr.blk {X : Nat → Prop} {w w' : World} (h : Fr X w w') {b : Nat} {o : Obj} (hb : w.heap[b]? = some o) (hx : ¬ X b) : w'.heap[b]? = some o := by
  have hlt : b < w.heap.size := (Array.getElem?_eq_some_iff.1 hb).1
  rw [h.block b hlt hx]; exact hb

theorem blk_lt {w : World} {b : Nat} {o : Obj} (hb : w.heap[b]? = some o) : b < w.heap.size := (Array.getElem?_eq_some_iff.1 hb).1
theorem blk_cell {w : World} {b : Nat} {c : Array Value} {t : TypeId} (hb : w.heap[b]? = some (.cells c t)) (o : Nat) : w.cell? ⟨b, o, none⟩ = c[o]? := by
  simp [World.cell?, hb]
theorem blk_frozen {w : World} {b : Nat} {c : Array Value} {t : TypeId} (hb : w.heap[b]? = some (.cells c t)) (o : Nat) : w.frozen? ⟨b, o, none⟩ = false := by
  simp [World.frozen?, hb]
theorem blk_set {w : World} {b : Nat} {c : Array Value} {t : TypeId} (hb : w.heap[b]? = some (.cells c t)) (o : Nat) (v : Value) : (w.setCell ⟨b, o, none⟩ v).heap[b]? = some (.cells (c.setIfInBounds o v) t) := by
  simp [World.setCell, Array.getElem?_modify, hb]
theorem blk_set_other {w : World} {b : Nat} {x : Obj} (hb : w.heap[b]? = some x) {p : Addr} (hp : b ≠ p.block) (v : Value) : (w.setCell p v).heap[b]? = some x := by
  rw [Below.heap_setCell w p v b hp]; exact hb
theorem blk_alloc {w : World} {b : Nat} {x : Obj} (hb : w.heap[b]? = some x) (o : Obj) : (w.alloc o).heap[b]? = some x := by
  rw [Below.heap_alloc w o b (blk_lt hb)]; exact hb
theorem blk_new (w : World) (o : Obj) : (w.alloc o).heap[w.heap.size]? = some o := by
  exact (MapKept.heap_alloc w o).1
theorem blk_drew {w : World} {b : Nat} {x : Obj} (hb : w.heap[b]? = some x) : w.drew.heap[b]? = some x := hb
theorem blk_drewN {w : World} {b : Nat} {x : Obj} (hb : w.heap[b]? = some x) (n : Nat) : (w.drewN n).heap[b]? = some x := hb
theorem blk_ne {w : World} {b b' : Nat} {c c' : Array Value} {t t' : TypeId} (h : w.heap[b]? = some (.cells c t)) (h' : w.heap[b']? = some (.cells c' t')) (ht : t ≠ t') : b ≠ b' := by
  rintro rfl; rw [h] at h'; cases h'; exact ht rfl

/-- a resource's cells fit their kinds -/
def Rok (r : Res) : Prop := (0 ≤ r.1 ∧ r.1 ≤ 255) ∧ (0 ≤ r.2.1 ∧ r.2.1 ≤ 4294967295)

def ptr : Option Ent → Value
  | none => .pointer none
  | some e => .pointer (some ⟨e.1, 0, none⟩)

/-- a head, whole -/
def headC (r : Res) : Array Value := #[.int .u8 r.1, .int .u32 r.2.1, .int .u64 r.2.2, .slice none 0 0, .pointer none]

/-- the hash of r as a place's number ahead of the mask -/
def hN (s0 s1 : Int) (r : Res) : Nat := (hash.hashI s0 s1 r.1 r.2.1 r.2.2).toNat

structure Tab (w : World) (T A : Nat) (S : List (Option Ent)) (n s0 s1 : Int) (p0 p1 : Value) (sp : Int) : Prop where
  tab : w.heap[T]? = some (.cells #[.slice (some ⟨A, 0, none⟩) S.length S.length, .int .i64 n, .int .u64 s0, .int .u64 s1, p0, p1, .int .i64 sp] 32)
  arr : w.heap[A]? = some (.cells (S.map ptr).toArray 29)
  head : ∀ b r, (b, r) ∈ S.filterMap id → w.heap[b]? = some (.cells (headC r) 39) ∧ Rok r

theorem Tab.fr {X : Nat → Prop} {w w' : World} {T A : Nat} {S : List (Option Ent)} {n s0 s1 : Int} {p0 p1 : Value} {sp : Int} (h : Tab w T A S n s0 s1 p0 p1 sp) (f : Fr X w w') (hT : ¬ X T) (hA : ¬ X A) (hb : ∀ b r, (b, r) ∈ S.filterMap id → ¬ X b) : Tab w' T A S n s0 s1 p0 p1 sp :=
  ⟨f.blk h.tab hT, f.blk h.arr hA, fun b r hm => ⟨f.blk (h.head b r hm).1 (hb b r hm), (h.head b r hm).2⟩⟩

theorem Tab.nil {w w' : World} {T A : Nat} {S : List (Option Ent)} {n s0 s1 : Int} {p0 p1 : Value} {sp : Int} (h : Tab w T A S n s0 s1 p0 p1 sp) (f : Fr Nil w w') : Tab w' T A S n s0 s1 p0 p1 sp :=
  h.fr f (fun h => h) (fun h => h) (fun _ _ _ h => h)

theorem Tab.slot {w : World} {T A : Nat} {S : List (Option Ent)} {n s0 s1 : Int} {p0 p1 : Value} {sp : Int} (h : Tab w T A S n s0 s1 p0 p1 sp) {i : Nat} (hi : i < S.length) : w.cell? ⟨A, i, none⟩ = some (ptr (atS S i)) := by
  rw [blk_cell h.arr]
  simp [atS_get hi]

theorem Tab.ne {w : World} {T A : Nat} {S : List (Option Ent)} {n s0 s1 : Int} {p0 p1 : Value} {sp : Int} (h : Tab w T A S n s0 s1 p0 p1 sp) : T ≠ A := blk_ne h.tab h.arr (by decide)
theorem Tab.ne_head {w : World} {T A : Nat} {S : List (Option Ent)} {n s0 s1 : Int} {p0 p1 : Value} {sp : Int} (h : Tab w T A S n s0 s1 p0 p1 sp) {b : Nat} {r : Res} (hm : (b, r) ∈ S.filterMap id) : T ≠ b ∧ A ≠ b :=
  ⟨blk_ne h.tab (h.head b r hm).1 (by decide), blk_ne h.arr (h.head b r hm).1 (by decide)⟩
end Go.Proofs.Ybulkbrno.mem
