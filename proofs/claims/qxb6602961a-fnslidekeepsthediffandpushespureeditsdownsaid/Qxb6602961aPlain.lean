import Derived.Test.Qxb6602961aFlat
namespace Go.Proofs.Qxb6602961a.Wk
set_option linter.unusedVariables false

/-- The number at place k. -/
def nth (a : List Int) (k : Int) : Int := a.getD k.toNat 0

/-- m numbers of a from pa on are those of b from pb on. -/
def Agr (a b : List Int) (pa pb m : Int) : Prop := ∀ t : Int, 0 ≤ t → t < m → nth a (pa + t) = nth b (pb + t)

/-- An edit fits behind (pa, pb). -/
def Fit (a b : List Int) (e : Ed) (pa pb : Int) : Prop :=
  (pa ≤ e.o ∧ e.o ≤ a.length ∧ pb ≤ e.n ∧ e.n ≤ b.length) ∧ (0 ≤ e.d ∧ 0 ≤ e.i ∧ e.d ≤ a.length - e.o ∧ e.i ≤ b.length - e.n) ∧ e.o - pa = e.n - pb ∧ Agr a b pa pb (e.o - pa)

/-- The edits turn a into b, from (pa, pb) on. -/
def Valid (a b : List Int) : List Ed → Int → Int → Prop
  | [], pa, pb => (a.length : Int) - pa = b.length - pb ∧ Agr a b pa pb (a.length - pa)
  | e :: es, pa, pb => Fit a b e pa pb ∧ Valid a b es (e.o + e.d) (e.n + e.i)

theorem Valid.mid {a b : List Int} {L L' : List Ed} (h : ∀ pa pb : Int, 0 ≤ pa → pa ≤ a.length → 0 ≤ pb → pb ≤ b.length → Valid a b L pa pb → Valid a b L' pa pb) :
    ∀ (S : List Ed) (pa pb : Int), 0 ≤ pa → pa ≤ a.length → 0 ≤ pb → pb ≤ b.length → Valid a b (S ++ L) pa pb → Valid a b (S ++ L') pa pb
  | [], pa, pb, h1, h2, h3, h4, hv => h pa pb h1 h2 h3 h4 hv
  | e :: S, pa, pb, h1, h2, h3, h4, hv => by
    obtain ⟨hf, hv⟩ := hv
    have hf' := hf
    obtain ⟨⟨f1, f2, f3, f4⟩, ⟨f5, f6, f7, f8⟩, f9, _⟩ := hf'
    exact ⟨hf, Valid.mid h S _ _ (by omega) (by omega) (by omega) (by omega) hv⟩

/-- What lies behind a valid beginning. -/
theorem Valid.drop {a b : List Int} {L : List Ed} : ∀ (S : List Ed) (pa pb : Int), 0 ≤ pa → pa ≤ a.length → 0 ≤ pb → pb ≤ b.length → Valid a b (S ++ L) pa pb → ∃ qa qb : Int, 0 ≤ qa ∧ qa ≤ a.length ∧ 0 ≤ qb ∧ qb ≤ b.length ∧ Valid a b L qa qb
  | [], pa, pb, h1, h2, h3, h4, hv => ⟨pa, pb, h1, h2, h3, h4, hv⟩
  | e :: S, pa, pb, h1, h2, h3, h4, hv => by
    obtain ⟨hf, hv⟩ := hv
    obtain ⟨⟨f1, f2, f3, f4⟩, ⟨f5, f6, f7, f8⟩, f9, _⟩ := hf
    exact Valid.drop S _ _ (by omega) (by omega) (by omega) (by omega) hv

theorem Agr.nil {a b : List Int} {pa pb m : Int} (h : m ≤ 0) : Agr a b pa pb m := fun t h1 h2 => by omega

/-- Two edits that touch are one. -/
theorem join_valid {a b : List Int} {e f : Ed} {R : List Ed} (ht : e.o + e.d = f.o) (pa pb : Int) (hv : Valid a b (e :: f :: R) pa pb) : Valid a b (⟨e.o, e.d + f.d, e.n, e.i + f.i⟩ :: R) pa pb := by
  obtain ⟨⟨⟨f1, f2, f3, f4⟩, ⟨f5, f6, f7, f8⟩, f9, fa⟩, ⟨⟨g1, g2, g3, g4⟩, ⟨g5, g6, g7, g8⟩, g9, ga⟩, hr⟩ := hv
  refine ⟨⟨⟨f1, f2, f3, f4⟩, ⟨by simp only; omega, by simp only; omega, by simp only; omega, by simp only; omega⟩, f9, fa⟩, ?_⟩
  simp only
  rw [show e.o + (e.d + f.d) = f.o + f.d by omega, show e.n + (e.i + f.i) = f.n + f.i by omega]
  exact hr

/-- The line behind an edit that touches no other stands in both. -/
theorem behind {a b : List Int} {e : Ed} {R : List Ed} (pa pb : Int) (hv : Valid a b (e :: R) pa pb) (hend : e.o + e.d < a.length) (hR : ∀ f ∈ R.head?, f.o ≠ e.o + e.d) :
    e.n + e.i < b.length ∧ nth a (e.o + e.d) = nth b (e.n + e.i) := by
  obtain ⟨⟨⟨f1, f2, f3, f4⟩, ⟨f5, f6, f7, f8⟩, f9, fa⟩, hr⟩ := hv
  cases R with
  | nil =>
    obtain ⟨g1, g2⟩ := hr
    have := g2 0 (by omega) (by omega)
    simp only [Int.add_zero] at this
    exact ⟨by omega, this⟩
  | cons f R =>
    obtain ⟨⟨⟨g1, g2, g3, g4⟩, ⟨g5, g6, g7, g8⟩, g9, ga⟩, _⟩ := hr
    have := hR f (by simp)
    have h2 := ga 0 (by omega) (by omega)
    simp only [Int.add_zero] at h2
    exact ⟨by omega, h2⟩

theorem Agr.front {a b : List Int} {pa pb m : Int} (h : Agr a b pa pb m) : Agr a b (pa + 1) (pb + 1) (m - 1) := fun t h1 h2 => by
  have := h (t + 1) (by omega) (by omega)
  rw [show pa + 1 + t = pa + (t + 1) by omega, show pb + 1 + t = pb + (t + 1) by omega]
  exact this

theorem Agr.back {a b : List Int} {pa pb m : Int} (h : Agr a b pa pb m) (he : nth a (pa + m) = nth b (pb + m)) : Agr a b pa pb (m + 1) := fun t h1 h2 => by
  by_cases ht : t < m
  · exact h t h1 ht
  · rw [show t = m by omega]; exact he

/-- An edit moved down by a line. -/
theorem move_valid {a b : List Int} {e : Ed} {R : List Ed} (pa pb : Int) (hv : Valid a b (e :: R) pa pb) (hend : e.o + e.d < a.length) (hR : ∀ f ∈ R.head?, f.o ≠ e.o + e.d)
    (hpure : e.d = 0 ∨ e.i = 0) (hc : (0 < e.d ∧ nth a e.o = nth a (e.o + e.d)) ∨ (0 < e.i ∧ nth b e.n = nth b (e.n + e.i))) :
    Valid a b (⟨e.o + 1, e.d, e.n + 1, e.i⟩ :: R) pa pb := by
  obtain ⟨x1, x2⟩ := behind pa pb hv hend hR
  obtain ⟨⟨⟨f1, f2, f3, f4⟩, ⟨f5, f6, f7, f8⟩, f9, fa⟩, hr⟩ := hv
  have hee : nth a e.o = nth b e.n := by
    rcases hc with ⟨c1, c2⟩ | ⟨c1, c2⟩
    · have : e.i = 0 := by omega
      rw [this, Int.add_zero] at x2
      rw [c2, x2]
    · have : e.d = 0 := by omega
      rw [this, Int.add_zero] at x2
      rw [c2, x2]
  refine ⟨⟨⟨by simp only; omega, by simp only; omega, by simp only; omega, by simp only; omega⟩, ⟨f5, f6, by simp only; omega, by simp only; omega⟩, by simp only; omega, ?_⟩, ?_⟩
  · simp only
    rw [show e.o + 1 - pa = e.o - pa + 1 by omega]
    refine fa.back ?_
    rw [show pa + (e.o - pa) = e.o by omega, show pb + (e.o - pa) = e.n by omega]
    exact hee
  · simp only
    rw [show e.o + 1 + e.d = e.o + e.d + 1 by omega, show e.n + 1 + e.i = e.n + e.i + 1 by omega]
    cases R with
    | nil =>
      obtain ⟨g1, g2⟩ := hr
      refine ⟨by omega, ?_⟩
      have := g2.front
      rw [show (a.length : Int) - (e.o + e.d + 1) = a.length - (e.o + e.d) - 1 by omega]
      exact this
    | cons f R =>
      obtain ⟨⟨⟨g1, g2, g3, g4⟩, g5, g9, ga⟩, hr⟩ := hr
      have := hR f (by simp)
      refine ⟨⟨⟨by omega, g2, by omega, g4⟩, g5, by omega, ?_⟩, hr⟩
      have := ga.front
      rw [show f.o - (e.o + e.d + 1) = f.o - (e.o + e.d) - 1 by omega]
      exact this

/-- A pure edit stands as far down as it can, as the next begins at q (no next: q = none). -/
def Down (a b : List Int) (e : Ed) (q : Option Int) : Prop :=
  (0 < e.d ∧ 0 < e.i) ∨ ((∀ x ∈ q, e.o + e.d < x) ∧ (0 < e.d → e.o + e.d < a.length → nth a e.o ≠ nth a (e.o + e.d)) ∧ (e.d = 0 → 0 < e.i → e.o + e.d < a.length → nth b e.n ≠ nth b (e.n + e.i)))

theorem Down.up {a b : List Int} {e : Ed} {q q' : Option Int} (h : Down a b e q) (hq : ∀ x' ∈ q', ∃ x ∈ q, x ≤ x') : Down a b e q' := by
  rcases h with h | ⟨h1, h2, h3⟩
  · exact .inl h
  · refine .inr ⟨fun x' hx' => ?_, h2, h3⟩
    obtain ⟨x, hx, hle⟩ := hq x' hx'
    have := h1 x hx
    omega

/-- All of S stand as far down as they can, what begins at q behind them. -/
def Downs (a b : List Int) : List Ed → Option Int → Prop
  | [], _ => True
  | [e], q => Down a b e q
  | e :: f :: S, q => Down a b e (some f.o) ∧ Downs a b (f :: S) q

theorem Downs.up {a b : List Int} {q q' : Option Int} (hq : ∀ x' ∈ q', ∃ x ∈ q, x ≤ x') : ∀ S : List Ed, Downs a b S q → Downs a b S q'
  | [], _ => trivial
  | [e], h => Down.up h hq
  | e :: f :: S, ⟨h1, h2⟩ => ⟨h1, Downs.up hq (f :: S) h2⟩

theorem Downs.snoc {a b : List Int} {q : Option Int} {e : Ed} (he : Down a b e q) : ∀ S : List Ed, Downs a b S (some e.o) → Downs a b (S ++ [e]) q
  | [], _ => he
  | [f], h => ⟨h, he⟩
  | f :: g :: S, ⟨h1, h2⟩ => ⟨h1, Downs.snoc he (g :: S) h2⟩

theorem Downs.at {a b : List Int} {q : Option Int} : ∀ (S : List Ed) (k : Nat), k < S.length → Downs a b S q → Down a b (ed S k) (if k + 1 < S.length then some (ed S (k + 1)).o else q)
  | [], k, h, _ => by simp at h
  | [e], 0, _, hd => by
    have h : Down a b e q := hd
    simpa [ed] using h
  | [e], k + 1, h, _ => by simp at h
  | e :: f :: S, 0, _, ⟨h1, _⟩ => by simpa [ed] using h1
  | e :: f :: S, k + 1, h, ⟨_, h2⟩ => by
    have := Downs.at (f :: S) k (by simpa using h) h2
    simpa [ed] using this

def delS (es : List Ed) : Int := (es.map (·.d)).sum
def insS (es : List Ed) : Int := (es.map (·.i)).sum

theorem dels_all (es : List Ed) : dels es es.length = delS es := by simp [dels, delS]
theorem inss_all (es : List Ed) : inss es es.length = insS es := by simp [inss, insS]

theorem drop_cons (es : List Ed) (k : Nat) (hk : k < es.length) : es.drop k = ed es k :: es.drop (k + 1) := by
  rw [List.drop_eq_getElem_cons hk]
  simp [ed, List.getD, hk]

/-- How far slide has come: S has been laid, i edits have been taken. -/
structure Out (a b : List Int) (es S : List Ed) (i : Nat) : Prop where
  v : Valid a b (S ++ es.drop i) 0 0
  len : S.length ≤ i
  del : delS (S ++ es.drop i) = delS es
  ins : insS (S ++ es.drop i) = insS es
  dn : Downs a b S ((es.drop i).head?.map (·.o))

/-- Inside: e is on its way, i the last edit that went into it. -/
structure Inn (a b : List Int) (es S : List Ed) (e : Ed) (i : Nat) : Prop where
  v : Valid a b (S ++ e :: es.drop (i + 1)) 0 0
  len : S.length ≤ i
  del : delS (S ++ e :: es.drop (i + 1)) = delS es
  ins : insS (S ++ e :: es.drop (i + 1)) = insS es
  dn : Downs a b S (some e.o)

theorem Out.start {a b : List Int} {es : List Ed} (h : Valid a b es 0 0) : Out a b es [] 0 := ⟨h, by simp, rfl, rfl, trivial⟩

theorem Out.inn {a b : List Int} {es S : List Ed} {i : Nat} (h : Out a b es S i) (hi : i < es.length) : Inn a b es S (ed es i) i := by
  obtain ⟨h1, h2, h3, h4, h5⟩ := h
  rw [drop_cons es i hi] at h1 h3 h4 h5
  exact ⟨h1, h2, h3, h4, h5⟩

theorem Inn.fit {a b : List Int} {es S : List Ed} {e : Ed} {i : Nat} (h : Inn a b es S e i) : ∃ pa pb : Int, 0 ≤ pa ∧ pa ≤ a.length ∧ 0 ≤ pb ∧ pb ≤ b.length ∧ Valid a b (e :: es.drop (i + 1)) pa pb :=
  Valid.drop S 0 0 (by omega) (by omega) (by omega) (by omega) h.v

theorem Inn.bounds {a b : List Int} {es S : List Ed} {e : Ed} {i : Nat} (h : Inn a b es S e i) :
    0 ≤ e.o ∧ 0 ≤ e.d ∧ e.o + e.d ≤ a.length ∧ 0 ≤ e.n ∧ 0 ≤ e.i ∧ e.n + e.i ≤ b.length := by
  obtain ⟨pa, pb, p1, p2, p3, p4, ⟨⟨⟨f1, f2, f3, f4⟩, ⟨f5, f6, f7, f8⟩, f9, fa⟩, hr⟩⟩ := h.fit
  exact ⟨by omega, by omega, by omega, by omega, by omega, by omega⟩

theorem Inn.next {a b : List Int} {es S : List Ed} {e : Ed} {i : Nat} (h : Inn a b es S e i) (hi : i + 1 < es.length) :
    e.o + e.d ≤ (ed es (i + 1)).o ∧ 0 ≤ (ed es (i + 1)).d ∧ (ed es (i + 1)).o + (ed es (i + 1)).d ≤ a.length ∧ 0 ≤ (ed es (i + 1)).i ∧ e.n + e.i + (ed es (i + 1)).i ≤ b.length := by
  obtain ⟨pa, pb, p1, p2, p3, p4, hv⟩ := h.fit
  rw [drop_cons es (i + 1) hi] at hv
  obtain ⟨⟨⟨f1, f2, f3, f4⟩, ⟨f5, f6, f7, f8⟩, f9, fa⟩, ⟨⟨g1, g2, g3, g4⟩, ⟨g5, g6, g7, g8⟩, g9, ga⟩, hr⟩ := hv
  exact ⟨by omega, by omega, by omega, by omega, by omega⟩

theorem Inn.behind {a b : List Int} {es S : List Ed} {e : Ed} {i : Nat} (h : Inn a b es S e i) (hend : e.o + e.d < a.length) (hn : i + 1 < es.length → (ed es (i + 1)).o ≠ e.o + e.d) :
    e.n + e.i < b.length := by
  obtain ⟨pa, pb, p1, p2, p3, p4, hv⟩ := h.fit
  refine (Wk.behind pa pb hv hend ?_).1
  intro f hf
  by_cases hi : i + 1 < es.length
  · rw [drop_cons es (i + 1) hi] at hf
    simp at hf
    subst hf
    exact hn hi
  · rw [List.drop_eq_nil_of_le (by omega)] at hf
    simp at hf

theorem Inn.join {a b : List Int} {es S : List Ed} {e : Ed} {i : Nat} (h : Inn a b es S e i) (hi : i + 1 < es.length) (ht : e.o + e.d = (ed es (i + 1)).o) :
    Inn a b es S ⟨e.o, e.d + (ed es (i + 1)).d, e.n, e.i + (ed es (i + 1)).i⟩ (i + 1) := by
  obtain ⟨h1, h2, h3, h4, h5⟩ := h
  rw [drop_cons es (i + 1) hi] at h1 h3 h4
  refine ⟨Valid.mid (fun pa pb _ _ _ _ hv => join_valid ht pa pb hv) S 0 0 (by omega) (by omega) (by omega) (by omega) h1, by omega, ?_, ?_, h5⟩
  · rw [← h3]; simp [delS]; omega
  · rw [← h4]; simp [insS]; omega

theorem Inn.move {a b : List Int} {es S : List Ed} {e : Ed} {i : Nat} (h : Inn a b es S e i) (hend : e.o + e.d < a.length) (hn : i + 1 < es.length → (ed es (i + 1)).o ≠ e.o + e.d)
    (hpure : e.d = 0 ∨ e.i = 0) (hc : (0 < e.d ∧ nth a e.o = nth a (e.o + e.d)) ∨ (0 < e.i ∧ nth b e.n = nth b (e.n + e.i))) : Inn a b es S ⟨e.o + 1, e.d, e.n + 1, e.i⟩ i := by
  obtain ⟨h1, h2, h3, h4, h5⟩ := h
  refine ⟨Valid.mid (fun pa pb _ _ _ _ hv => move_valid pa pb hv hend ?_ hpure hc) S 0 0 (by omega) (by omega) (by omega) (by omega) h1, h2, ?_, ?_, Downs.up ?_ S h5⟩
  · intro f hf
    by_cases hi : i + 1 < es.length
    · rw [drop_cons es (i + 1) hi] at hf
      simp at hf
      subst hf
      exact hn hi
    · rw [List.drop_eq_nil_of_le (by omega)] at hf
      simp at hf
  · rw [← h3]; simp [delS]
  · rw [← h4]; simp [insS]
  · intro x hx
    simp at hx
    exact ⟨e.o, by simp, by omega⟩

theorem Inn.out {a b : List Int} {es S : List Ed} {e : Ed} {i : Nat} (h : Inn a b es S e i)
    (hd : (0 < e.d ∧ 0 < e.i) ∨ ((i + 1 < es.length → (ed es (i + 1)).o ≠ e.o + e.d) ∧ (e.o + e.d < a.length → ¬ ((0 < e.d ∧ nth a e.o = nth a (e.o + e.d)) ∨ (0 < e.i ∧ nth b e.n = nth b (e.n + e.i)))))) :
    Out a b es (S ++ [e]) (i + 1) := by
  have hnext := h.next
  obtain ⟨h1, h2, h3, h4, h5⟩ := h
  refine ⟨by simpa using h1, by simp; omega, by simpa using h3, by simpa using h4, Downs.snoc ?_ S h5⟩
  rcases hd with hd | ⟨d1, d2⟩
  · exact .inl hd
  · refine .inr ⟨fun x hx => ?_, fun c1 c2 c3 => d2 c2 (.inl ⟨c1, c3⟩), fun c0 c1 c2 c3 => d2 c2 (.inr ⟨c1, c3⟩)⟩
    by_cases hi : i + 1 < es.length
    · rw [drop_cons es (i + 1) hi] at hx
      simp at hx
      subst hx
      have := d1 hi
      have := (hnext hi).1
      omega
    · rw [List.drop_eq_nil_of_le (by omega)] at hx
      simp at hx

/-- What slide's answer is worth. -/
structure Good (a b : List Int) (es S : List Ed) : Prop where
  v : Valid a b S 0 0
  len : S.length ≤ es.length
  del : delS S = delS es
  ins : insS S = insS es
  dn : Downs a b S none

theorem Out.good {a b : List Int} {es S : List Ed} {i : Nat} (h : Out a b es S i) (hi : i = es.length) : Good a b es S := by
  obtain ⟨h1, h2, h3, h4, h5⟩ := h
  subst hi
  simp at h1 h3 h4 h5
  exact ⟨h1, h2, h3, h4, h5⟩

theorem Valid.each {a b : List Int} : ∀ (es : List Ed) (pa pb : Int), 0 ≤ pa → 0 ≤ pb → Valid a b es pa pb → ∀ k, k < es.length → 0 ≤ (ed es k).o ∧ 0 ≤ (ed es k).d ∧ (ed es k).o + (ed es k).d ≤ a.length ∧ 0 ≤ (ed es k).n ∧ 0 ≤ (ed es k).i ∧ (ed es k).n + (ed es k).i ≤ b.length
  | [], _, _, _, _, _, k, hk => by simp at hk
  | e :: es, pa, pb, h1, h2, hv, 0, _ => by
    obtain ⟨⟨⟨f1, f2, f3, f4⟩, ⟨f5, f6, f7, f8⟩, f9, fa⟩, hr⟩ := hv
    simp only [ed, List.getD_cons_zero]
    exact ⟨by omega, by omega, by omega, by omega, by omega, by omega⟩
  | e :: es, pa, pb, h1, h2, hv, k + 1, hk => by
    obtain ⟨⟨⟨f1, f2, f3, f4⟩, ⟨f5, f6, f7, f8⟩, f9, fa⟩, hr⟩ := hv
    have := Valid.each es _ _ (by omega) (by omega) hr k (by simpa using hk)
    simpa [ed] using this

/-- Behind a pure insertion of a valid answer that touches no next stands a line of b. -/
theorem Good.behind {a b : List Int} {es S : List Ed} (h : Good a b es S) (k : Nat) (hk : k < S.length) (hend : (ed S k).o + (ed S k).d < a.length) (hn : k + 1 < S.length → (ed S (k + 1)).o ≠ (ed S k).o + (ed S k).d) :
    (ed S k).n + (ed S k).i < b.length := by
  have hv := h.v
  rw [← List.take_append_drop k S, drop_cons S k hk] at hv
  obtain ⟨qa, qb, _, _, _, _, hv⟩ := Valid.drop _ 0 0 (by omega) (by omega) (by omega) (by omega) hv
  refine (Wk.behind qa qb hv hend ?_).1
  intro f hf
  by_cases hi : k + 1 < S.length
  · rw [drop_cons S (k + 1) hi] at hf
    simp at hf
    subst hf
    exact hn hi
  · rw [List.drop_eq_nil_of_le (by omega)] at hf
    simp at hf

end Go.Proofs.Qxb6602961a.Wk
