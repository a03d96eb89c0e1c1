import GoSem.Core.Float
namespace Go.Proofs.Qxb6603396a
open Ieee

/-- A word that stands for no number. -/
def NaN (x : Nat) : Prop := (double.read x).isNaN = true
/-- Two words that stand for the same, or for no number both. -/
def Eqv (a b : Nat) : Prop := double.read a = double.read b ∨ (NaN a ∧ NaN b)
/-- What an operation whose exact answer is o may give: a NaN's bits are open. -/
def FRes (o : Option Nat) (r : Nat) : Prop := o = some r ∨ (o = none ∧ NaN r)

theorem nan_form {d : Datum} (h : d.isNaN = true) : ∃ s t, d = .nan s t := by
  cases d with
  | nan s t => exact ⟨s, t, rfl⟩
  | number => simp [Datum.isNaN] at h
  | infinity => simp [Datum.isNaN] at h

theorem Eqv.refl (a : Nat) : Eqv a a := .inl rfl
theorem Eqv.symm {a b : Nat} (h : Eqv a b) : Eqv b a := by
  rcases h with h | h
  · exact .inl h.symm
  · exact .inr ⟨h.2, h.1⟩
theorem Eqv.nan {a b : Nat} (h : Eqv a b) : NaN a ↔ NaN b := by
  rcases h with h | h
  · unfold NaN; rw [h]
  · exact ⟨fun _ => h.2, fun _ => h.1⟩

theorem Datum.sum_nan_l (s : Bool) (t : Nat) (d : Datum) : Datum.sum (.nan s t) d = none := by cases d <;> rfl
theorem Datum.sum_nan_r (s : Bool) (t : Nat) (d : Datum) : Datum.sum d (.nan s t) = none := by cases d <;> rfl
theorem Datum.quo_nan_l (n : Nat) (s : Bool) (t : Nat) (d : Datum) : Datum.quotient n (.nan s t) d = none := by cases d <;> rfl
theorem Datum.quo_nan_r (n : Nat) (s : Bool) (t : Nat) (d : Datum) : Datum.quotient n d (.nan s t) = none := by cases d <;> rfl
theorem Datum.mul_nan_l (s : Bool) (t : Nat) (d : Datum) : Datum.product (.nan s t) d = none := by cases d <;> rfl
theorem Datum.mul_nan_r (s : Bool) (t : Nat) (d : Datum) : Datum.product d (.nan s t) = none := by cases d <;> rfl
theorem Datum.ord_nan_l (s : Bool) (t : Nat) (d : Datum) : Datum.order (.nan s t) d = none := by cases d <;> rfl
theorem Datum.ord_nan_r (s : Bool) (t : Nat) (d : Datum) : Datum.order d (.nan s t) = none := by cases d <;> rfl

theorem add_nan {a b : Nat} (h : NaN a ∨ NaN b) : double.add a b = none := by
  unfold Format.add
  rcases h with h | h
  · obtain ⟨s, t, e⟩ := nan_form h; rw [e, Datum.sum_nan_l]; rfl
  · obtain ⟨s, t, e⟩ := nan_form h; rw [e, Datum.sum_nan_r]; rfl
theorem sub_nan {a b : Nat} (h : NaN a ∨ NaN b) : double.sub a b = none := by
  unfold Format.sub
  rcases h with h | h
  · obtain ⟨s, t, e⟩ := nan_form h; rw [e, Datum.sum_nan_l]; rfl
  · obtain ⟨s, t, e⟩ := nan_form h; rw [e]; show (Datum.sum _ (.nan (!s) t)).map _ = _; rw [Datum.sum_nan_r]; rfl
theorem mul_nan {a b : Nat} (h : NaN a ∨ NaN b) : double.mul a b = none := by
  unfold Format.mul
  rcases h with h | h
  · obtain ⟨s, t, e⟩ := nan_form h; rw [e, Datum.mul_nan_l]; rfl
  · obtain ⟨s, t, e⟩ := nan_form h; rw [e, Datum.mul_nan_r]; rfl
theorem div_nan {a b : Nat} (h : NaN a ∨ NaN b) : double.div a b = none := by
  unfold Format.div
  rcases h with h | h
  · obtain ⟨s, t, e⟩ := nan_form h; rw [e, Datum.quo_nan_l]; rfl
  · obtain ⟨s, t, e⟩ := nan_form h; rw [e, Datum.quo_nan_r]; rfl
theorem ord_nan {a b : Nat} (h : NaN a ∨ NaN b) : double.order a b = none := by
  unfold Format.order
  rcases h with h | h
  · obtain ⟨s, t, e⟩ := nan_form h; rw [e, Datum.ord_nan_l]
  · obtain ⟨s, t, e⟩ := nan_form h; rw [e, Datum.ord_nan_r]

/-- Two answers of one operation at words that stand for the same. -/
theorem FRes.eqv {o : Option Nat} {r r' : Nat} (h : FRes o r) (h' : FRes o r') : Eqv r r' := by
  rcases h with h | ⟨h, n⟩
  · rcases h' with h' | ⟨h', _⟩
    · rw [h] at h'; cases h'; exact Eqv.refl _
    · rw [h] at h'; cases h'
  · rcases h' with h' | ⟨_, n'⟩
    · rw [h] at h'; cases h'
    · exact .inr ⟨n, n'⟩

theorem Eqv.add {a a' b b' : Nat} (ha : Eqv a a') (hb : Eqv b b') : double.add a b = double.add a' b' := by
  rcases ha with ha | ⟨h, h'⟩
  · rcases hb with hb | ⟨h, h'⟩
    · unfold Format.add; rw [ha, hb]
    · rw [add_nan (.inr h), add_nan (.inr h')]
  · rw [add_nan (.inl h), add_nan (.inl h')]
theorem Eqv.sub {a a' b b' : Nat} (ha : Eqv a a') (hb : Eqv b b') : double.sub a b = double.sub a' b' := by
  rcases ha with ha | ⟨h, h'⟩
  · rcases hb with hb | ⟨h, h'⟩
    · unfold Format.sub; rw [ha, hb]
    · rw [sub_nan (.inr h), sub_nan (.inr h')]
  · rw [sub_nan (.inl h), sub_nan (.inl h')]
theorem Eqv.mul {a a' b b' : Nat} (ha : Eqv a a') (hb : Eqv b b') : double.mul a b = double.mul a' b' := by
  rcases ha with ha | ⟨h, h'⟩
  · rcases hb with hb | ⟨h, h'⟩
    · unfold Format.mul; rw [ha, hb]
    · rw [mul_nan (.inr h), mul_nan (.inr h')]
  · rw [mul_nan (.inl h), mul_nan (.inl h')]
theorem Eqv.div {a a' b b' : Nat} (ha : Eqv a a') (hb : Eqv b b') : double.div a b = double.div a' b' := by
  rcases ha with ha | ⟨h, h'⟩
  · rcases hb with hb | ⟨h, h'⟩
    · unfold Format.div; rw [ha, hb]
    · rw [div_nan (.inr h), div_nan (.inr h')]
  · rw [div_nan (.inl h), div_nan (.inl h')]
theorem Eqv.ord {a a' b b' : Nat} (ha : Eqv a a') (hb : Eqv b b') : double.order a b = double.order a' b' := by
  rcases ha with ha | ⟨h, h'⟩
  · rcases hb with hb | ⟨h, h'⟩
    · unfold Format.order; rw [ha, hb]
    · rw [ord_nan (.inr h), ord_nan (.inr h')]
  · rw [ord_nan (.inl h), ord_nan (.inl h')]

theorem compare_self (n : Int) : compare n n = .eq := by simp [compare, compareOfLessAndEq]
theorem compare_self_nat (n : Nat) : compare n n = .eq := by simp [compare, compareOfLessAndEq]

theorem ord_self {a : Nat} (h : ¬ NaN a) : double.order a a = some .eq := by
  unfold Format.order
  unfold NaN at h
  cases e : double.read a with
  | nan s t => rw [e] at h; exact absurd rfl h
  | infinity s => show some (compare s.toNat s.toNat) = _; rw [compare_self_nat]
  | number s m i => show some (compare _ _) = _; rw [compare_self]

/-- The word of 1. -/
def one : Nat := 4607182418800017408
theorem read_one : double.read one = .number false 4503599627370496 (-52) := by decide +kernel
theorem read_zero : double.read 0 = .number false 0 (-1074) := by decide +kernel

/-- What a word that is a number looks like. -/
theorem read_number {x : Nat} {s : Bool} {m : Nat} {e : Int} (h : double.read x = .number s m e) : (m < 4503599627370496 ∧ e = -1074) ∨ (4503599627370496 ≤ m ∧ m < 9007199254740992) := by
  unfold Format.read at h
  have hb : double.binade = 4503599627370496 := by decide +kernel
  have hl : double.leastPlace = -1074 := by decide +kernel
  simp only [hb, hl] at h
  split at h
  · next hr =>
    left
    injection h with h1 h2 h3
    exact ⟨by rw [← h2]; exact hr, h3.symm⟩
  · split at h
    · right
      injection h with h1 h2 h3
      rw [← h2]
      omega
    · split at h <;> cases h

theorem ord_one {x : Nat} (h : double.order x one = some .eq) : double.read x = double.read one := by
  unfold Format.order at h
  rw [read_one] at h ⊢
  cases e : double.read x with
  | nan s t => rw [e] at h; cases h
  | infinity s => rw [e] at h; cases s <;> simp [Datum.order] at h
  | number s m i =>
    rw [e] at h
    simp only [Datum.order, Option.some.injEq] at h
    have hcmp : signed s m (i - min i (-52)).toNat = signed false 4503599627370496 (-52 - min i (-52)).toNat := by
      simp [compare, compareOfLessAndEq] at h
      by_cases c1 : signed s m (i - min i (-52)).toNat < signed false 4503599627370496 (-52 - min i (-52)).toNat
      · simp [c1] at h
      · by_cases c2 : signed s m (i - min i (-52)).toNat = signed false 4503599627370496 (-52 - min i (-52)).toNat
        · exact c2
        · simp [c1, c2] at h
    unfold signed at hcmp
    simp only [Bool.false_eq_true, if_false, Nat.shiftLeft_eq] at hcmp
    have hpos : 0 < 4503599627370496 * 2 ^ (-52 - min i (-52)).toNat := Nat.mul_pos (by decide) (Nat.pow_pos (by decide))
    cases s with
    | true => simp only [if_true] at hcmp; omega
    | false =>
      simp only [Bool.false_eq_true, if_false] at hcmp
      have hcmp' : m * 2 ^ (i - min i (-52)).toNat = 4503599627370496 * 2 ^ (-52 - min i (-52)).toNat := by omega
      rcases read_number e with ⟨hm, hi⟩ | ⟨hm1, hm2⟩
      · subst hi
        rw [show min (-1074 : Int) (-52) = -1074 by decide, show ((-1074 : Int) - -1074).toNat = 0 by decide, Nat.pow_zero, Nat.mul_one] at hcmp'
        have : 1 ≤ 2 ^ (-52 - (-1074 : Int)).toNat := Nat.pow_pos (by decide)
        have h2 : 4503599627370496 ≤ 4503599627370496 * 2 ^ (-52 - (-1074 : Int)).toNat := Nat.le_mul_of_pos_right _ (by omega)
        omega
      · by_cases c : i ≤ -52
        · rw [show min i (-52) = i by omega, show (i - i).toNat = 0 by omega, Nat.pow_zero, Nat.mul_one] at hcmp'
          by_cases c2 : i = -52
          · subst c2
            simp at hcmp'
            rw [hcmp']
          · have : 2 ^ 1 ≤ 2 ^ (-52 - i).toNat := Nat.pow_le_pow_right (by decide) (by omega)
            have h2 : 4503599627370496 * 2 ^ 1 ≤ 4503599627370496 * 2 ^ (-52 - i).toNat := Nat.mul_le_mul_left _ this
            omega
        · rw [show min i (-52) = -52 by omega, show ((-52 : Int) - -52).toNat = 0 by decide, Nat.pow_zero, Nat.mul_one] at hcmp'
          have : 2 ^ 1 ≤ 2 ^ (i - -52).toNat := Nat.pow_le_pow_right (by decide) (by omega)
          have h2 : m * 2 ^ 1 ≤ m * 2 ^ (i - -52).toNat := Nat.mul_le_mul_left _ this
          omega

theorem compare_swap (a b : Int) : compare a b = (compare b a).swap := by
  simp only [compare, compareOfLessAndEq]
  by_cases h1 : a < b
  · rw [if_pos h1, if_neg (by omega), if_neg (by omega)]; rfl
  · by_cases h2 : a = b
    · rw [if_neg h1, if_pos h2, if_neg (by omega), if_pos h2.symm]; rfl
    · rw [if_neg h1, if_neg h2, if_pos (by omega)]; rfl
theorem compare_swap_nat (a b : Nat) : compare a b = (compare b a).swap := by
  simp only [compare, compareOfLessAndEq]
  by_cases h1 : a < b
  · rw [if_pos h1, if_neg (by omega), if_neg (by omega)]; rfl
  · by_cases h2 : a = b
    · rw [if_neg h1, if_pos h2, if_neg (by omega), if_pos h2.symm]; rfl
    · rw [if_neg h1, if_neg h2, if_pos (by omega)]; rfl

theorem ord_swap (a b : Nat) : double.order a b = (double.order b a).map Ordering.swap := by
  unfold Format.order
  cases double.read a with
  | nan s t => rw [Datum.ord_nan_l, Datum.ord_nan_r]; rfl
  | infinity s =>
    cases double.read b with
    | nan s t => rw [Datum.ord_nan_l, Datum.ord_nan_r]; rfl
    | infinity t => show some (compare t.toNat s.toNat) = some ((compare s.toNat t.toNat).swap); rw [compare_swap_nat]
    | number t n j => cases s <;> rfl
  | number s m i =>
    cases double.read b with
    | nan s t => rw [Datum.ord_nan_l, Datum.ord_nan_r]; rfl
    | infinity t => cases t <;> rfl
    | number t n j =>
      show some (compare _ _) = some ((compare _ _).swap)
      rw [compare_swap, Int.min_comm]

/-- 'min(1, x)', as Go answers it. -/
def MinRes (x r : Nat) : Prop := (double.order one x = none ∧ NaN r) ∨ (double.order one x = some .lt ∧ r = one) ∨ ((double.order one x = some .gt ∨ double.order one x = some .eq) ∧ r = x)
/-- 'if x != x || x < 1 { return x }; return 1'. -/
def PickRes (x r : Nat) : Prop := ((double.order x x ≠ some .eq ∨ double.order x one = some .lt) ∧ r = x) ∨ (double.order x x = some .eq ∧ double.order x one ≠ some .lt ∧ r = one)

theorem nan_or (x : Nat) : NaN x ∨ ¬ NaN x := Classical.em _
theorem not_nan_one : ¬ NaN one := by unfold NaN; rw [read_one]; simp [Datum.isNaN]

theorem ord_some {a b : Nat} (ha : ¬ NaN a) (hb : ¬ NaN b) : ∃ c, double.order a b = some c := by
  unfold Format.order
  unfold NaN at ha hb
  cases ea : double.read a with
  | nan s t => rw [ea] at ha; exact absurd rfl ha
  | infinity s =>
    cases eb : double.read b with
    | nan s t => rw [eb] at hb; exact absurd rfl hb
    | infinity t => exact ⟨_, rfl⟩
    | number t n j => exact ⟨_, rfl⟩
  | number s m i =>
    cases eb : double.read b with
    | nan s t => rw [eb] at hb; exact absurd rfl hb
    | infinity t => exact ⟨_, rfl⟩
    | number t n j => exact ⟨_, rfl⟩

/-- The two ways to a share come to the same. -/
theorem share_eqv {x x' r r' : Nat} (hx : Eqv x x') (h : MinRes x r) (h' : PickRes x' r') : Eqv r r' := by
  rcases nan_or x with hn | hn
  · have hn' := hx.nan.1 hn
    have e1 := ord_nan (a := one) (b := x) (.inr hn)
    have e2 := ord_nan (a := x') (b := x') (.inl hn')
    have hr : NaN r := by
      rcases h with ⟨_, h⟩ | ⟨h, _⟩ | ⟨h | h, _⟩
      · exact h
      · rw [e1] at h; cases h
      · rw [e1] at h; cases h
      · rw [e1] at h; cases h
    have hr' : NaN r' := by
      rcases h' with ⟨_, h⟩ | ⟨h, _⟩
      · rw [h]; exact hn'
      · rw [e2] at h; cases h
    exact .inr ⟨hr, hr'⟩
  · have hn' : ¬ NaN x' := fun h => hn (hx.nan.2 h)
    have hself := ord_self hn'
    have hsw := ord_swap one x
    have hxx : double.order x one = double.order x' one := hx.ord (Eqv.refl one)
    rcases h with ⟨h, _⟩ | ⟨h, hr⟩ | ⟨h, hr⟩
    · obtain ⟨c, hc⟩ := ord_some not_nan_one hn
      rw [hc] at h; cases h
    · rw [h] at hsw
      rw [hr]
      have hgt : double.order x one = some .gt := by
        cases e : double.order x one with
        | none => rw [e] at hsw; cases hsw
        | some c => rw [e] at hsw; cases c <;> first | rfl | cases hsw
      rcases h' with ⟨h1 | h1, _⟩ | ⟨_, _, rfl⟩
      · exact absurd hself h1
      · rw [← hxx, hgt] at h1; cases h1
      · exact Eqv.refl _
    · rw [hr]
      rcases h with h | h
      · rw [h] at hsw
        have hlt : double.order x one = some .lt := by
          cases e : double.order x one with
          | none => rw [e] at hsw; cases hsw
          | some c => rw [e] at hsw; cases c <;> first | rfl | cases hsw
        rcases h' with ⟨_, rfl⟩ | ⟨_, h1, _⟩
        · exact hx
        · rw [← hxx] at h1; exact absurd hlt h1
      · rw [h] at hsw
        have heq : double.order x one = some .eq := by
          cases e : double.order x one with
          | none => rw [e] at hsw; cases hsw
          | some c => rw [e] at hsw; cases c <;> first | rfl | cases hsw
        rcases h' with ⟨_, rfl⟩ | ⟨_, _, rfl⟩
        · exact hx
        · exact .inl (ord_one heq)

/-- 1 over a zero. -/
theorem div_zero {a : Nat} (h : double.order a 0 = some .eq) : ∃ r, double.div one a = some r ∧ double.order r r = some .eq := by
  unfold Format.order at h
  rw [read_zero] at h
  unfold Format.div
  rw [read_one]
  cases e : double.read a with
  | nan s t => rw [e] at h; cases h
  | infinity s => rw [e] at h; cases s <;> simp [Datum.order] at h
  | number s m i =>
    rw [e] at h
    have hm : m = 0 := by
      simp only [Datum.order, Option.some.injEq] at h
      have h2 : signed s m (i - min i (-1074)).toNat = signed false 0 (-1074 - min i (-1074)).toNat := by
        simp [compare, compareOfLessAndEq] at h
        by_cases c1 : signed s m (i - min i (-1074)).toNat < signed false 0 (-1074 - min i (-1074)).toNat
        · simp [c1] at h
        · by_cases c2 : signed s m (i - min i (-1074)).toNat = signed false 0 (-1074 - min i (-1074)).toNat
          · exact c2
          · simp [c1, c2] at h
      unfold signed at h2
      simp only [Bool.false_eq_true, if_false, Nat.shiftLeft_eq, Nat.zero_mul] at h2
      have hp : 0 < 2 ^ (i - min i (-1074)).toNat := Nat.pow_pos (by decide)
      rcases Nat.eq_zero_or_pos m with hm | hm
      · exact hm
      · have := Nat.mul_pos hm hp
        cases s with
        | true => simp only [if_true] at h2; omega
        | false => simp only [Bool.false_eq_true, if_false] at h2; omega
    subst hm
    refine ⟨double.write (.infinity (false ^^ s)), rfl, ?_⟩
    cases s <;> decide +kernel

/-- A word off the tape is a NaN. -/
theorem nan_drawn (t : Nat) : NaN ((t % 2) * 2 ^ 63 + 0x7ff0000000000000 + 1 + (t / 2) % (2 ^ 52 - 1)) := by
  unfold NaN Format.read
  have hs : double.signWeight = 9223372036854775808 := by decide +kernel
  have hb : double.binade = 4503599627370496 := by decide +kernel
  have hi : double.infRung = 9218868437227405312 := by decide +kernel
  simp only [hs, hb, hi]
  have h1 := Nat.mod_lt t (show 2 > 0 by decide)
  have h2 := Nat.mod_lt (t / 2) (show 2 ^ 52 - 1 > 0 by decide)
  have e : ((t % 2) * 2 ^ 63 + 0x7ff0000000000000 + 1 + (t / 2) % (2 ^ 52 - 1)) % 9223372036854775808 = 9218868437227405313 + (t / 2) % (2 ^ 52 - 1) := by
    have h3 : t % 2 = 0 ∨ t % 2 = 1 := by omega
    rcases h3 with h3 | h3 <;> rw [h3] <;> omega
  rw [e]
  rw [if_neg (by omega), if_neg (by omega), if_neg (by omega)]
  rfl
end Go.Proofs.Qxb6603396a
