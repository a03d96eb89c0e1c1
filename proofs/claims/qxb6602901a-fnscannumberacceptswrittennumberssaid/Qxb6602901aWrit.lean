import Derived.Test.Qxb6602901aPlain
namespace Go.Proofs.Qxb6602901a

/-- A number's digits, as far as the scan asks. -/
structure Digits (u : Nat) (D : List Nat) : Prop where
  all : ∀ z ∈ D, dig z = true
  len : D.length ≤ 20
  ne : D ≠ []
  zero : u = 0 → D = [48]
  pos : 0 < u → D.getD 0 0 ≠ 48

/-- The scan of W, whatever follows, comes to the state s. -/
def Tx (s : Nat) (W : List Nat) : Prop := ∀ R, aut 0 (W ++ R) = (W.length + (aut s R).1, (aut s R).2)

theorem Tx.nil : Tx 0 [] := fun R => by simp
theorem Tx.snoc {s s' : Nat} {W : List Nat} (h : Tx s W) (c : Nat) (hs : nst s c = s') (h9 : s' ≠ 9) : Tx s' (W ++ [c]) := fun R => by
  rw [List.append_assoc, h]
  have e : aut s ([c] ++ R) = ((aut s' R).1 + 1, (aut s' R).2) := by
    show aut s (c :: R) = _
    simp only [aut, hs]
    rw [if_neg h9]
  rw [e]
  exact Prod.ext (by simp; omega) rfl

theorem Tx.over {s : Nat} (hs : s = 3 ∨ s = 5 ∨ s = 8) {W : List Nat} (h : Tx s W) (D : List Nat) (hd : ∀ z ∈ D, dig z = true) : Tx s (W ++ D) := by
  induction D generalizing W with
  | nil => simpa using h
  | cons c D ih =>
    have hc := hd c (by simp)
    have h1 := h.snoc (s' := s) c (by rcases hs with rfl | rfl | rfl <;> simp [nst, hc]) (by omega)
    have h2 := ih h1 (fun z hz => hd z (List.mem_cons_of_mem _ hz))
    rw [List.append_assoc] at h2
    exact h2

theorem Digits.cons {u : Nat} {D : List Nat} (h : Digits u D) : ∃ c D', D = c :: D' ∧ dig c = true ∧ (∀ z ∈ D', dig z = true) := by
  cases D with
  | nil => exact absurd rfl h.ne
  | cons c D' => exact ⟨c, D', rfl, h.all c (by simp), fun z hz => h.all z (List.mem_cons_of_mem _ hz)⟩

/-- The whole part's digits. -/
theorem Tx.whole {s : Nat} (hs : s = 0 ∨ s = 1) {W : List Nat} (h : Tx s W) {u : Nat} {D : List Nat} (hD : Digits u D) : Tx (if u = 0 then 2 else 3) (W ++ D) := by
  by_cases hu : u = 0
  · rw [if_pos hu, hD.zero hu]
    exact h.snoc 48 (by rcases hs with rfl | rfl <;> rfl) (by decide)
  · rw [if_neg hu]
    have hp := hD.pos (by omega)
    obtain ⟨c, D', rfl, hc, hd⟩ := hD.cons
    have hc48 : c ≠ 48 := by simpa using hp
    have hc45 : c ≠ 45 := by intro e; rw [e] at hc; cases hc
    have h1 := h.snoc (s' := 3) c (by rcases hs with rfl | rfl <;> simp [nst, hc, hc48, hc45]) (by decide)
    have h2 := h1.over (.inl rfl) D' hd
    rw [List.append_assoc] at h2
    exact h2

/-- Digits behind a point, or of an exponent. -/
theorem Tx.frac {W : List Nat} (h : Tx 4 W) {u : Nat} {D : List Nat} (hD : Digits u D) : Tx 5 (W ++ D) := by
  obtain ⟨c, D', rfl, hc, hd⟩ := hD.cons
  have h1 := h.snoc (s' := 5) c (by simp [nst, hc]) (by decide)
  have h2 := h1.over (.inr (.inl rfl)) D' hd
  rw [List.append_assoc] at h2
  exact h2
theorem Tx.expo {s : Nat} (hs : s = 6 ∨ s = 7) {W : List Nat} (h : Tx s W) {u : Nat} {D : List Nat} (hD : Digits u D) : Tx 8 (W ++ D) := by
  obtain ⟨c, D', rfl, hc, hd⟩ := hD.cons
  have hcn : ¬ (c = 43 ∨ c = 45) := by rintro (e | e) <;> rw [e] at hc <;> cases hc
  have h1 := h.snoc (s' := 8) c (by rcases hs with rfl | rfl <;> simp [nst, hc, hcn]) (by decide)
  have h2 := h1.over (.inr (.inr rfl)) D' hd
  rw [List.append_assoc] at h2
  exact h2

/-- A signed number's octets. -/
def IntText (n : Int) (X : List Nat) : Prop := ∃ D, Digits n.natAbs D ∧ X = (if n < 0 then 45 :: D else D)

theorem Tx.int {n : Int} {X : List Nat} (h : IntText n X) : Tx (if n = 0 then 2 else 3) X := by
  obtain ⟨D, hD, rfl⟩ := h
  have e : (if n.natAbs = 0 then 2 else 3) = (if n = 0 then 2 else 3) := by
    by_cases h0 : n = 0
    · simp [h0]
    · rw [if_neg (by omega), if_neg h0]
  rw [← e]
  by_cases hn : n < 0
  · rw [if_pos hn]
    have h1 := Tx.nil.snoc (s' := 1) 45 rfl (by decide)
    exact h1.whole (.inr rfl) hD
  · rw [if_neg hn]
    exact Tx.nil.whole (.inl rfl) hD

theorem Tx.expInt {s : Nat} (hs : s = 6 ∨ s = 7) {W : List Nat} (h : Tx s W) {n : Int} (hn : s = 7 → 0 ≤ n) {X : List Nat} (hX : IntText n X) : Tx 8 (W ++ X) := by
  obtain ⟨D, hD, rfl⟩ := hX
  by_cases hneg : n < 0
  · rw [if_pos hneg]
    have hs6 : s = 6 := by have := fun h => hn h; omega
    subst hs6
    have h1 := h.snoc (s' := 7) 45 rfl (by decide)
    have h2 := h1.expo (.inr rfl) hD
    rw [List.append_assoc] at h2
    exact h2
  · rw [if_neg hneg]
    exact h.expo hs hD

theorem IntText.len {n : Int} {X : List Nat} (h : IntText n X) : X.length ≤ 21 := by
  obtain ⟨D, hD, rfl⟩ := h
  have := hD.len
  split <;> simp <;> omega
theorem IntText.byte {n : Int} {X : List Nat} (h : IntText n X) : ∀ z ∈ X, z < 256 := by
  obtain ⟨D, hD, rfl⟩ := h
  have hb : ∀ z ∈ D, z < 256 := fun z hz => by have := hD.all z hz; simp [dig] at this; omega
  intro z hz
  split at hz
  · rcases List.mem_cons.1 hz with h | h
    · omega
    · exact hb z h
  · exact hb z hz
theorem Digits.byte {u : Nat} {D : List Nat} (h : Digits u D) : ∀ z ∈ D, z < 256 := fun z hz => by have := h.all z hz; simp [dig] at this; omega

/-- What may not follow. -/
def Stops (s : Nat) (R : List Nat) : Prop := R ≠ [] → nst s (R.getD 0 0) = 9
theorem Tx.stop {s : Nat} {W R : List Nat} (h : Tx s W) (hR : Stops s R) : aut 0 (W ++ R) = (W.length, s) := by
  rw [h]
  cases R with
  | nil => simp [aut]
  | cons c R =>
    have := hR (by simp)
    simp at this
    simp [aut, this]

/-- The loop of AppendUint: L are the array's octets, k the place of the last digit written, cur what is left of u. -/
structure Dg (u : Nat) (L : List Nat) (k cur : Nat) : Prop where
  len : L.length = 20
  lo : 1 ≤ k
  hi : k ≤ 20
  lt : cur < 10 ^ k
  all : ∀ z ∈ L.drop k, dig z = true
  pos : 0 < u → 0 < cur
  zero : u = 0 → cur = 0 ∧ k = 20

theorem Dg.start {u : Nat} (h : u < 18446744073709551616) : Dg u (List.replicate 20 0) 20 u :=
  ⟨rfl, by omega, by omega, by omega, by simp, fun h => h, fun h => ⟨h, rfl⟩⟩

theorem drop_set {L : List Nat} {k : Nat} (h : k < L.length) (x : Nat) : (L.set k x).drop k = x :: L.drop (k + 1) := by
  rw [List.drop_set, if_neg (by omega), Nat.sub_self, drop_getD h]
  rfl

theorem dig_of (c : Nat) : dig (48 + c % 10) = true := by simp [dig]; omega

theorem Dg.next {u : Nat} {L : List Nat} {k cur : Nat} (h : Dg u L (k + 1) cur) (hc : cur / 10 ≠ 0) : Dg u (L.set k (48 + cur % 10)) k (cur / 10) := by
  have hl := h.len
  have hhi := h.hi
  have hlt := h.lt
  rw [Nat.pow_succ] at hlt
  have hk1 : 1 ≤ k := by
    rcases Nat.eq_zero_or_pos k with e | e
    · subst e; simp at hlt; omega
    · exact e
  refine ⟨by simpa using hl, hk1, by omega, by omega, ?_, fun _ => by omega, fun h0 => by have := (h.zero h0).1; omega⟩
  rw [drop_set (by omega)]
  intro z hz
  rcases List.mem_cons.1 hz with e | e
  · rw [e]; exact dig_of cur
  · exact h.all z e

theorem Dg.last {u : Nat} {L : List Nat} {k cur : Nat} (h : Dg u L (k + 1) cur) (hc : cur / 10 = 0) : Digits u ((L.set k (48 + cur % 10)).drop k) := by
  have hl := h.len
  have hhi := h.hi
  rw [drop_set (by omega)]
  refine ⟨?_, by simp; omega, by simp, ?_, ?_⟩
  · intro z hz
    rcases List.mem_cons.1 hz with e | e
    · rw [e]; exact dig_of cur
    · exact h.all z e
  · intro h0
    obtain ⟨h1, h2⟩ := h.zero h0
    have : L.drop (k + 1) = [] := List.drop_eq_nil_of_le (by omega)
    rw [this, h1]
  · intro hp
    have := h.pos hp
    simp
    omega
end Go.Proofs.Qxb6602901a
