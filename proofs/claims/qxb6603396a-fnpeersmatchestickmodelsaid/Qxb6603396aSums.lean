import Derived.Test.Qxb6603396aZeros
namespace Go.Proofs.Qxb6603396a
open Go.RowKit Ieee

/-- A value is saturated. -/
def SatP (V Z v : Nat) : Prop := double.order V 0 = some .gt ∧ ∃ r, Near V Z r ∧ double.order v r = some .gt

theorem near_eqv {V Z r r' : Nat} (h : Near V Z r) (h' : Near V Z r') : Eqv r r' := by
  obtain ⟨d, h1, h2⟩ := h
  obtain ⟨d', h1', h2'⟩ := h'
  have e := h1.eqv h1'
  rw [(Eqv.refl V).mul e] at h2
  exact h2.eqv h2'
theorem sat_iff {V Z v r : Nat} (h : Near V Z r) : SatP V Z v ↔ double.order V 0 = some .gt ∧ double.order v r = some .gt := by
  constructor
  · rintro ⟨h0, r', hr', ho⟩
    exact ⟨h0, by rw [(Eqv.refl v).ord (near_eqv h hr')]; exact ho⟩
  · rintro ⟨h0, ho⟩
    exact ⟨h0, r, h, ho⟩

/-- The value of series i at tick index j of a grid that begins at fst. -/
def valAt (fst : Int) (ss : Nat → Ser) (vs : Nat → List Nat) (j i : Nat) : Nat := (vs i).getD (fst + j - (ss i).first).toNat 0
/-- It is counted. -/
def Cnt (hit : Nat → Prop) (fst : Int) (V Z : Nat) (ss : Nat → Ser) (vs : Nat → List Nat) (j i : Nat) : Prop :=
  hit j ∧ (ss i).kf ≤ fst + j ∧ fst + j ≤ (ss i).kl ∧ ¬ SatP V Z (valAt fst ss vs j i)

/-- One step of the sums. -/
def Step (R : Ser → Int → Int → Nat → Nat → Prop) (fst tick : Int) (B S : Nat) (ss : Nat → Ser) (vs : Nat → List Nat) (j i L0 S0 L S1 : Nat) : Prop :=
  ∃ c x, FRes (double.sub (valAt fst ss vs j i) B) c ∧ FRes (double.add L0 c) L ∧ R (ss i) (fst + j) tick S x ∧ FRes (double.add S0 x) S1

/-- L, S1 are sums that may come out behind the first i series, at tick index j. -/
def Sums (R : Ser → Int → Int → Nat → Nat → Prop) (hit : Nat → Prop) (fst tick : Int) (V Z B S : Nat) (ss : Nat → Ser) (vs : Nat → List Nat) (j : Nat) : Nat → Nat → Nat → Prop
  | 0, L, S1 => L = 0 ∧ S1 = 0
  | i + 1, L, S1 => ∃ L0 S0, Sums R hit fst tick V Z B S ss vs j i L0 S0 ∧ ((Cnt hit fst V Z ss vs j i ∧ Step R fst tick B S ss vs j i L0 S0 L S1) ∨ (¬ Cnt hit fst V Z ss vs j i ∧ L = L0 ∧ S1 = S0))

section
variable {R : Ser → Int → Int → Nat → Nat → Prop} {hit : Nat → Prop} {fst tick : Int} {V Z B S : Nat} {ss : Nat → Ser} {vs : Nat → List Nat} {j i L S1 : Nat}
theorem Sums.no (h : Sums R hit fst tick V Z B S ss vs j i L S1) (hc : ¬ Cnt hit fst V Z ss vs j i) : Sums R hit fst tick V Z B S ss vs j (i + 1) L S1 := ⟨L, S1, h, .inr ⟨hc, rfl, rfl⟩⟩
theorem Sums.yes {L' S' : Nat} (h : Sums R hit fst tick V Z B S ss vs j i L S1) (hc : Cnt hit fst V Z ss vs j i) (hs : Step R fst tick B S ss vs j i L S1 L' S') : Sums R hit fst tick V Z B S ss vs j (i + 1) L' S' := ⟨L, S1, h, .inl ⟨hc, hs⟩⟩
end

theorem part_eqv {s : Ser} {k tick : Int} {slow x x' : Nat} (h : ShareOf s k tick slow x) (h' : PickOf s k tick slow x') : Eqv x x' := by
  unfold ShareOf at h
  unfold PickOf at h'
  split at h
  · rename_i hc
    rw [if_pos hc] at h'
    rw [h, h']; exact Eqv.refl _
  · rename_i hc
    rw [if_neg hc] at h'
    obtain ⟨y, ⟨d, q1, q2⟩, hm⟩ := h
    obtain ⟨y', ⟨d', q1', q2'⟩, hp⟩ := h'
    have e := q1.eqv q1'
    rw [e.div (Eqv.refl slow)] at q2
    exact share_eqv (q2.eqv q2') hm hp

theorem Sums.eqv {hit : Nat → Prop} {fst tick : Int} {V Z B S : Nat} {ss : Nat → Ser} {vs : Nat → List Nat} {j : Nat} : ∀ {i L S1 L' S' : Nat}, Sums ShareOf hit fst tick V Z B S ss vs j i L S1 → Sums PickOf hit fst tick V Z B S ss vs j i L' S' → Eqv L L' ∧ Eqv S1 S'
  | 0, _, _, _, _, h, h' => by
    obtain ⟨rfl, rfl⟩ := h
    obtain ⟨rfl, rfl⟩ := h'
    exact ⟨Eqv.refl _, Eqv.refl _⟩
  | i + 1, _, _, _, _, ⟨L0, S0, h, hs⟩, ⟨L0', S0', h', hs'⟩ => by
    obtain ⟨e1, e2⟩ := Sums.eqv h h'
    rcases hs with ⟨hc, c, x, a1, a2, a3, a4⟩ | ⟨hc, rfl, rfl⟩
    · rcases hs' with ⟨_, c', x', b1, b2, b3, b4⟩ | ⟨hc', _⟩
      · have ec := a1.eqv b1
        rw [e1.add ec] at a2
        rw [e2.add (part_eqv a3 b3)] at a4
        exact ⟨a2.eqv b2, a4.eqv b4⟩
      · exact absurd hc hc'
    · rcases hs' with ⟨hc', _⟩ | ⟨_, rfl, rfl⟩
      · exact absurd hc' hc
      · exact ⟨e1, e2⟩

theorem Sums.like {hit : Nat → Prop} {fst tick : Int} {V Z B S : Nat} {ss ss' : Nat → Ser} {vs : Nat → List Nat} {j : Nat} : ∀ {i L S1 : Nat}, (∀ k, k < i → Like (ss k) (ss' k)) → Sums ShareOf hit fst tick V Z B S ss' vs j i L S1 → Sums ShareOf hit fst tick V Z B S ss vs j i L S1
  | 0, _, _, _, h => h
  | i + 1, L, S1, hl, ⟨L0, S0, h, hs⟩ => by
    have hi := hl i (Nat.lt_succ_self i)
    have e1 : (ss' i).first = (ss i).first := by rw [hi]
    have e2 : (ss' i).kf = (ss i).kf := by rw [hi]
    have e3 : (ss' i).kl = (ss i).kl := by rw [hi]
    have ev : valAt fst ss' vs j i = valAt fst ss vs j i := by unfold valAt; rw [e1]
    have ec : Cnt hit fst V Z ss' vs j i ↔ Cnt hit fst V Z ss vs j i := by unfold Cnt; rw [e2, e3, ev]
    have es : ∀ x, ShareOf (ss' i) (fst + j) tick S x ↔ ShareOf (ss i) (fst + j) tick S x := fun x => by
      have h1 : (ss' i).has = (ss i).has := by rw [hi]
      have h2 : (ss' i).start = (ss i).start := by rw [hi]
      unfold ShareOf Quo; rw [h1, h2]
    refine ⟨L0, S0, Sums.like (fun k hk => hl k (by omega)) h, ?_⟩
    rcases hs with ⟨hc, c, x, a1, a2, a3, a4⟩ | ⟨hc, h⟩
    · exact .inl ⟨ec.1 hc, c, x, by rw [← ev]; exact a1, a2, (es x).1 a3, a4⟩
    · exact .inr ⟨fun h' => hc (ec.2 h'), h⟩

theorem Sums.none {R : Ser → Int → Int → Nat → Nat → Prop} {hit : Nat → Prop} {fst tick : Int} {V Z B S : Nat} {ss : Nat → Ser} {vs : Nat → List Nat} {j : Nat} (hn : ¬ hit j) : ∀ i, Sums R hit fst tick V Z B S ss vs j i 0 0
  | 0 => ⟨rfl, rfl⟩
  | i + 1 => (Sums.none hn i).no fun h => hn h.1
end Go.Proofs.Qxb6603396a
