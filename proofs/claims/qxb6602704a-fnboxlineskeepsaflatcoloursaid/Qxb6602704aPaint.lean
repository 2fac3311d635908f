import Derived.Test.Qxb6602704aAt
namespace Go.Proofs.Qxb6602704a.Wk
open Go.ChangeShapes Go.WideShapes Go.ChangeAt Go.RowKit
set_option linter.unusedVariables false

/-- The bytes that have been touched when channel c of pixel j of line i is next. -/
def TS (dl ds Len i j c k : Nat) : Prop :=
  (∃ i' j' c', (i' < i ∧ j' < Len ∨ i' = i ∧ j' < j) ∧ c' < 4 ∧ k = i' * dl + j' * ds + c') ∨ ∃ c', c' < c ∧ k = i * dl + j * ds + c'

theorem TS_zero (dl ds Len k : Nat) : ¬ TS dl ds Len 0 0 0 k := by
  rintro (⟨i', j', c', h, _⟩ | ⟨c', h, _⟩) <;> omega

theorem TS_c (dl ds Len i j c k : Nat) : TS dl ds Len i j (c + 1) k ↔ TS dl ds Len i j c k ∨ k = i * dl + j * ds + c := by
  constructor
  · rintro (h | ⟨c', h, e⟩)
    · exact .inl (.inl h)
    · by_cases he : c' = c
      · subst he; exact .inr e
      · exact .inl (.inr ⟨c', by omega, e⟩)
  · rintro ((h | ⟨c', h, e⟩) | e)
    · exact .inl h
    · exact .inr ⟨c', by omega, e⟩
    · exact .inr ⟨c, by omega, e⟩

theorem TS_j (dl ds Len i j k : Nat) : TS dl ds Len i j 4 k ↔ TS dl ds Len i (j + 1) 0 k := by
  constructor
  · rintro (⟨i', j', c', h, hc, e⟩ | ⟨c', h, e⟩)
    · exact .inl ⟨i', j', c', by omega, hc, e⟩
    · exact .inl ⟨i, j, c', .inr ⟨rfl, by omega⟩, h, e⟩
  · rintro (⟨i', j', c', h, hc, e⟩ | ⟨c', h, e⟩)
    · rcases h with h | ⟨rfl, h⟩
      · exact .inl ⟨i', j', c', .inl h, hc, e⟩
      · by_cases he : j' = j
        · subst he; exact .inr ⟨c', hc, e⟩
        · exact .inl ⟨i', j', c', .inr ⟨rfl, by omega⟩, hc, e⟩
    · omega

theorem TS_i (dl ds Len i k : Nat) : TS dl ds Len i Len 0 k ↔ TS dl ds Len (i + 1) 0 0 k := by
  constructor
  · rintro (⟨i', j', c', h, hc, e⟩ | ⟨c', h, e⟩)
    · exact .inl ⟨i', j', c', by omega, hc, e⟩
    · omega
  · rintro (⟨i', j', c', h, hc, e⟩ | ⟨c', h, e⟩)
    · exact .inl ⟨i', j', c', by omega, hc, e⟩
    · omega

/-- dst's bytes: the colour where a byte has been touched, else what it held. -/
def Painted (ps old col : List Int) (nd : Nat) (T : Nat → Prop) : Prop := ∀ k, k < nd → (T k → ps.getD k 0 = col.getD (k % 4) 0) ∧ (¬ T k → ps.getD k 0 = old.getD k 0)

theorem Painted.cong {ps old col : List Int} {nd : Nat} {T T' : Nat → Prop} (h : Painted ps old col nd T) (e : ∀ k, T k ↔ T' k) : Painted ps old col nd T' := fun k hk =>
  ⟨fun ht => (h k hk).1 ((e k).2 ht), fun ht => (h k hk).2 fun h' => ht ((e k).1 h')⟩

theorem Painted.set {ps old col : List Int} {nd : Nat} {T : Nat → Prop} (h : Painted ps old col nd T) (hl : ps.length = nd) (p c : Nat) (hp : p < nd) (hc : p % 4 = c) : Painted (ps.set p (col.getD c 0)) old col nd (fun k => T k ∨ k = p) := fun k hk => by
  rw [getD_set _ _ _ _ (by omega)]
  by_cases he : k = p
  · subst he
    rw [if_pos rfl, hc]
    exact ⟨fun _ => rfl, fun hn => absurd (.inr rfl) hn⟩
  · rw [if_neg he]
    exact ⟨fun ht => (h k hk).1 (ht.resolve_right he), fun ht => (h k hk).2 fun h' => ht (.inl h')⟩

theorem Painted.start (old col : List Int) (nd dl ds Len : Nat) : Painted old old col nd (TS dl ds Len 0 0 0) := fun k _ => ⟨fun h => absurd h (TS_zero _ _ _ _), fun _ => rfl⟩

/-- The marks. -/
def Marked (tb : List Bool) (nd : Nat) (T : Nat → Prop) : Prop := ∀ k, k < nd → (tb.getD k false = true ↔ T k)

theorem Marked.cong {tb : List Bool} {nd : Nat} {T T' : Nat → Prop} (h : Marked tb nd T) (e : ∀ k, T k ↔ T' k) : Marked tb nd T' := fun k hk => (h k hk).trans (e k)

theorem Marked.set {tb : List Bool} {nd : Nat} {T : Nat → Prop} (h : Marked tb nd T) (hl : tb.length = nd) (p : Nat) (hp : p < nd) : Marked (tb.set p true) nd (fun k => T k ∨ k = p) := fun k hk => by
  have e : (tb.set p true).getD k false = if k = p then true else tb.getD k false := by
    simp only [List.getD, List.getElem?_set]
    by_cases h : p = k
    · subst h; simp [show p < tb.length by omega]
    · rw [if_neg h, if_neg (fun e => h e.symm)]
  rw [e]
  by_cases he : k = p
  · simp [he]
  · rw [if_neg he]
    have := h k hk
    constructor
    · intro h1; exact .inl (this.1 h1)
    · intro h1; exact this.2 (h1.resolve_right he)

end Go.Proofs.Qxb6602704a.Wk
