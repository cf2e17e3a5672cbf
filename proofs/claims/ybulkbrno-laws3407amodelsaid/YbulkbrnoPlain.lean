/-
  The plain law of an open-addressed table: no Go in sight. S: the places; each is free or holds (the head's block, its resource). h: the hash.
-/
namespace Go.Proofs.Ybulkbrno.plain

abbrev Res := Int × Int × Int
abbrev Ent := Nat × Res

/-- what stands at place i -/
def atS (S : List (Option Ent)) (i : Nat) : Option Ent := (S[i]?).getD none

/-- the first d places of the search from h are filled, none by r -/
def Clear (S : List (Option Ent)) (h : Nat) (r : Res) (d : Nat) : Prop :=
  ∀ j, j < d → ∃ b r', atS S ((h + j) % S.length) = some (b, r') ∧ r' ≠ r

/-- each entry is met by the search from its home -/
def Good (S : List (Option Ent)) (h : Res → Nat) : Prop :=
  ∀ i b r, atS S i = some (b, r) → ∃ d, d < S.length ∧ i = (h r + d) % S.length ∧ Clear S (h r) r d

/-- the search for r from h ends at step d -/
def Stop (S : List (Option Ent)) (h : Nat) (r : Res) (d : Nat) : Prop :=
  Clear S h r d ∧ (atS S ((h + d) % S.length) = none ∨ ∃ b, atS S ((h + d) % S.length) = some (b, r))

theorem atS_lt {S : List (Option Ent)} {i : Nat} {e : Ent} (h : atS S i = some e) : i < S.length := by
  unfold atS at h
  cases hs : S[i]? with
  | none => rw [hs] at h; simp at h
  | some x => exact (List.getElem?_eq_some_iff.1 hs).1

theorem atS_some {S : List (Option Ent)} {i : Nat} {e : Ent} (h : atS S i = some e) : S[i]? = some (some e) := by
  unfold atS at h
  cases hs : S[i]? with
  | none => rw [hs] at h; simp at h
  | some x => rw [hs] at h; simp at h; rw [h]

theorem atS_of {S : List (Option Ent)} {i : Nat} {e : Option Ent} (h : S[i]? = some e) : atS S i = e := by
  unfold atS; rw [h]; rfl

theorem atS_get {S : List (Option Ent)} {i : Nat} (h : i < S.length) : S[i]? = some (atS S i) := by
  unfold atS; rw [List.getElem?_eq_getElem h]; rfl

theorem mem_iff {S : List (Option Ent)} {e : Ent} : e ∈ S.filterMap id ↔ ∃ i, atS S i = some e := by
  constructor
  · intro h
    obtain ⟨x, hx, hxe⟩ := List.mem_filterMap.1 h
    simp at hxe
    subst hxe
    obtain ⟨i, hi⟩ := List.mem_iff_getElem?.1 hx
    exact ⟨i, atS_of hi⟩
  · rintro ⟨i, hi⟩
    exact List.mem_filterMap.2 ⟨some e, List.mem_iff_getElem?.2 ⟨i, atS_some hi⟩, rfl⟩

theorem atS_set {S : List (Option Ent)} {i : Nat} (hi : i < S.length) (e : Option Ent) (j : Nat) : atS (S.set i e) j = if j = i then e else atS S j := by
  unfold atS
  rw [List.getElem?_set]
  by_cases h : i = j
  · subst h; simp [hi]
  · rw [if_neg h, if_neg (fun e => h e.symm)]

theorem atS_nil (n i : Nat) : atS (List.replicate n none) i = none := by
  unfold atS
  rw [List.getElem?_replicate]
  split <;> rfl

theorem fm_nil (n : Nat) : (List.replicate n (none : Option Ent)).filterMap id = [] := by
  induction n with
  | zero => rfl
  | succ n ih => simp [List.replicate_succ, ih]

theorem good_nil (n : Nat) (h : Res → Nat) : Good (List.replicate n none) h := by
  intro i b r hi
  rw [atS_nil] at hi
  cases hi

/-- a table that is not full has a free place -/
theorem free_of {S : List (Option Ent)} (h : (S.filterMap id).length < S.length) : ∃ i, i < S.length ∧ atS S i = none := by
  induction S with
  | nil => simp at h
  | cons x S ih =>
    cases x with
    | none => exact ⟨0, by simp, rfl⟩
    | some e =>
      simp only [List.filterMap_cons, id, List.length_cons] at h
      obtain ⟨i, hi, hn⟩ := ih (by omega)
      exact ⟨i + 1, by simp; omega, by unfold atS at *; simpa using hn⟩

/-- the least number -/
theorem least (p : Nat → Prop) (n : Nat) (h : p n) : ∃ d, d ≤ n ∧ p d ∧ ∀ j, j < d → ¬ p j := by
  induction n using Nat.strongRecOn with
  | _ n ih =>
    by_cases hx : ∃ j, j < n ∧ p j
    · obtain ⟨j, hj, hp⟩ := hx
      obtain ⟨d, hd, h1, h2⟩ := ih j hj hp
      exact ⟨d, by omega, h1, h2⟩
    · exact ⟨n, Nat.le_refl _, h, fun j hj hp => hx ⟨j, hj, hp⟩⟩

/-- where there is a free place the search ends -/
theorem stop_of {S : List (Option Ent)} (h : Nat) (r : Res) (hf : ∃ i, i < S.length ∧ atS S i = none) : ∃ d, d < S.length ∧ Stop S h r d := by
  obtain ⟨i, hi, hn⟩ := hf
  have hN : 0 < S.length := by omega
  have hlt : h % S.length < S.length := Nat.mod_lt _ hN
  have e0 : (h + (i + S.length - h % S.length) % S.length) % S.length = i := by
    have e1 : (h + (i + S.length - h % S.length) % S.length) % S.length = (h % S.length + (i + S.length - h % S.length)) % S.length := by
      simp [Nat.add_mod]
    rw [e1, show h % S.length + (i + S.length - h % S.length) = i + S.length from by omega, Nat.add_mod_right, Nat.mod_eq_of_lt hi]
  obtain ⟨d, hd, h1, h2⟩ := least (fun d => atS S ((h + d) % S.length) = none ∨ ∃ b, atS S ((h + d) % S.length) = some (b, r)) ((i + S.length - h % S.length) % S.length) (.inl (by rw [e0]; exact hn))
  refine ⟨d, Nat.lt_of_le_of_lt hd (Nat.mod_lt _ hN), ?_, h1⟩
  intro j hj
  have := h2 j hj
  cases hs : atS S ((h + j) % S.length) with
  | none => exact absurd (.inl hs) this
  | some e =>
    obtain ⟨b, r'⟩ := e
    exact ⟨b, r', rfl, fun er => this (.inr ⟨b, by rw [hs, er]⟩)⟩

theorem stop_uniq {S : List (Option Ent)} {h : Nat} {r : Res} {d d' : Nat} (h1 : Stop S h r d) (h2 : Stop S h r d') : d = d' := by
  rcases Nat.lt_trichotomy d d' with hl | hl | hl
  · obtain ⟨b, r', e, hne⟩ := h2.1 d hl
    rcases h1.2 with e' | ⟨b', e'⟩
    · rw [e] at e'; cases e'
    · rw [e] at e'; cases e'; exact absurd rfl hne
  · exact hl
  · obtain ⟨b, r', e, hne⟩ := h1.1 d' hl
    rcases h2.2 with e' | ⟨b', e'⟩
    · rw [e] at e'; cases e'
    · rw [e] at e'; cases e'; exact absurd rfl hne

/-- what is in the table is found -/
theorem good_stop {S : List (Option Ent)} {h : Res → Nat} (hg : Good S h) {i b : Nat} {r : Res} (hi : atS S i = some (b, r)) : ∃ d, d < S.length ∧ i = (h r + d) % S.length ∧ Stop S (h r) r d := by
  obtain ⟨d, h1, h2, h3⟩ := hg i b r hi
  exact ⟨d, h1, h2, h3, .inr ⟨b, by rw [← h2]; exact hi⟩⟩

/-- a resource stands at one place alone -/
theorem good_inj {S : List (Option Ent)} {h : Res → Nat} (hg : Good S h) {i i' b b' : Nat} {r : Res} (hi : atS S i = some (b, r)) (hi' : atS S i' = some (b', r)) : i = i' := by
  obtain ⟨d, _, h2, h3⟩ := good_stop hg hi
  obtain ⟨d', _, h2', h3'⟩ := good_stop hg hi'
  rw [h2, h2', stop_uniq h3 h3']

/-- a new entry at the free place where its search ends -/
theorem ins_good {S : List (Option Ent)} {h : Res → Nat} (hg : Good S h) {b : Nat} {r : Res} {d : Nat} (hd : d < S.length) (hc : Clear S (h r) r d) (hn : atS S ((h r + d) % S.length) = none) :
    Good (S.set ((h r + d) % S.length) (some (b, r))) h := by
  have hN : 0 < S.length := by omega
  have hp : (h r + d) % S.length < S.length := Nat.mod_lt _ hN
  -- a clear search stays clear
  have keep : ∀ (g : Nat) (r' : Res) (c : Nat), Clear S g r' c → Clear (S.set ((h r + d) % S.length) (some (b, r))) g r' c := by
    intro g r' c hcl j hj
    obtain ⟨b', r'', e, hne⟩ := hcl j hj
    refine ⟨b', r'', ?_, hne⟩
    rw [List.length_set, atS_set hp, if_neg]
    · exact e
    · intro he; rw [he, hn] at e; cases e
  intro i b' r' hi
  rw [atS_set hp] at hi
  rw [List.length_set]
  by_cases he : i = (h r + d) % S.length
  · rw [if_pos he] at hi
    cases hi
    exact ⟨d, hd, he, keep _ _ _ hc⟩
  · rw [if_neg he] at hi
    obtain ⟨d', h1, h2, h3⟩ := hg i b' r' hi
    exact ⟨d', h1, h2, keep _ _ _ h3⟩

theorem ins_perm {S : List (Option Ent)} {i : Nat} (hi : i < S.length) (hn : atS S i = none) (e : Ent) : ((S.set i (some e)).filterMap id).Perm (e :: S.filterMap id) := by
  induction S generalizing i with
  | nil => simp at hi
  | cons x S ih =>
    cases i with
    | zero =>
      have hx : x = none := by simpa [atS] using hn
      subst hx
      simp
    | succ i =>
      have hn' : atS S i = none := by unfold atS at *; simpa using hn
      have := ih (by simpa using hi) hn'
      cases x with
      | none => simpa using this
      | some y =>
        simp only [List.set_cons_succ, List.filterMap_cons, id]
        exact (List.Perm.cons y this).trans (List.Perm.swap _ _ _)

/-- the first j places' entries -/
theorem take_none {S : List (Option Ent)} {j : Nat} (hj : j < S.length) (h : atS S j = none) : (S.take (j + 1)).filterMap id = (S.take j).filterMap id := by
  rw [List.take_add_one, atS_get hj, h]; simp
theorem take_some {S : List (Option Ent)} {j : Nat} (hj : j < S.length) {e : Ent} (h : atS S j = some e) : (S.take (j + 1)).filterMap id = (S.take j).filterMap id ++ [e] := by
  rw [List.take_add_one, atS_get hj, h]; simp

theorem atS_take {S : List (Option Ent)} {j i : Nat} {e : Ent} (h : atS (S.take j) i = some e) : i < j ∧ atS S i = some e := by
  have hl := atS_lt h
  rw [List.length_take] at hl
  refine ⟨by omega, ?_⟩
  unfold atS at *
  rw [List.getElem?_take_of_lt (by omega)] at h
  exact h

/-- the entry at place j of the old table is not yet in the new one -/
theorem not_yet {S S2 : List (Option Ent)} {h : Res → Nat} (hg : Good S h) {j : Nat} (hp : (S2.filterMap id).Perm ((S.take j).filterMap id)) {b : Nat} {r : Res} (hj : atS S j = some (b, r)) :
    ∀ i b', atS S2 i ≠ some (b', r) := by
  intro i b' hi
  have h1 : (b', r) ∈ S2.filterMap id := mem_iff.2 ⟨i, hi⟩
  have h2 := hp.mem_iff.1 h1
  obtain ⟨i', hi'⟩ := mem_iff.1 h2
  obtain ⟨hlt, he⟩ := atS_take hi'
  have := good_inj hg he hj
  omega

/-- the number of entries among the first j places -/
theorem take_le (S : List (Option Ent)) (j : Nat) : ((S.take j).filterMap id).length ≤ j :=
  Nat.le_trans (List.length_filterMap_le _ _) (List.length_take_le _ _)
end Go.Proofs.Ybulkbrno.plain
