namespace Go.Proofs.Qxb6602870a

/-- One step of 'after': the state behind the octet c, and whether it goes on with a name in which an action ended. -/
def stp (h c : Nat) : Nat :=
  if c = 35 then 8 else if c = 63 ∧ h = 1 then 2 else if (c = 38 ∨ c = 59) ∧ h ≠ 1 ∧ h ≠ 8 then 2 else if h = 16 then 2 else if c = 61 ∧ h = 2 then 4 else h
def nmd (h c : Nat) : Bool := decide (h = 16 ∧ c ≠ 35 ∧ c ≠ 38 ∧ c ≠ 59)

/-- The text T read from the state h. -/
def run (h : Nat) : List Nat → Nat × Bool
  | [] => (h, false)
  | c :: T => ((run (stp h c) T).1, nmd h c || (run (stp h c) T).2)

theorem run_append (h : Nat) (T U : List Nat) : run h (T ++ U) = ((run (run h T).1 U).1, (run h T).2 || (run (run h T).1 U).2) := by
  induction T generalizing h with
  | nil => simp [run]
  | cons c T ih => simp [run, ih, Bool.or_assoc]

theorem run_snoc (h : Nat) (T : List Nat) (c : Nat) : run h (T ++ [c]) = (stp (run h T).1 c, (run h T).2 || nmd (run h T).1 c) := by
  rw [run_append]; simp [run]

def Ok (h : Nat) : Prop := h = 1 ∨ h = 2 ∨ h = 4 ∨ h = 8 ∨ h = 16

theorem stp_ok {h : Nat} (hh : Ok h) (c : Nat) : Ok (stp h c) := by
  unfold stp Ok
  unfold Ok at hh
  repeat' split
  all_goals omega

theorem run_ok {h : Nat} (hh : Ok h) (T : List Nat) : Ok (run h T).1 := by
  induction T generalizing h with
  | nil => exact hh
  | cons c T ih => exact ih (stp_ok hh c)

theorem Ok.lt {h : Nat} (hh : Ok h) : h < 256 := by unfold Ok at hh; omega

/-! ### The closed form -/
theorem stp8 (c : Nat) : stp 8 c = 8 := by
  unfold stp
  repeat' split
  all_goals first | rfl | omega
theorem run8 (T : List Nat) : run 8 T = (8, false) := by
  induction T with
  | nil => rfl
  | cons c T ih => simp [run, stp8, ih, nmd]

theorem not_named {h : Nat} (hh : Ok h) (h16 : h ≠ 16) (T : List Nat) : (run h T).2 = false := by
  induction T generalizing h with
  | nil => rfl
  | cons c T ih =>
    have hs : stp h c ≠ 16 := by
      unfold stp
      repeat' split
      all_goals omega
    simp [run, ih (stp_ok hh c) hs, nmd, h16]

theorem stp_hash (h : Nat) : stp h 35 = 8 := by simp [stp]
theorem run_hash {h : Nat} (T : List Nat) (hm : 35 ∈ T) : (run h T).1 = 8 := by
  induction T generalizing h with
  | nil => simp at hm
  | cons c T ih =>
    by_cases e : c = 35
    · subst e; simp [run, stp_hash, run8]
    · have : 35 ∈ T := by
        rcases List.mem_cons.1 hm with h | h
        · exact absurd h.symm e
        · exact h
      simp [run, ih this]

theorem stp16_ok (c : Nat) : stp 16 c = 8 ∨ stp 16 c = 2 := by
  unfold stp
  repeat' split
  all_goals omega
theorem named16 (T : List Nat) : (run 16 T).2 = (match T with | [] => false | c :: _ => nmd 16 c) := by
  cases T with
  | nil => rfl
  | cons c T =>
    have hs : stp 16 c ≠ 16 := by have := stp16_ok c; omega
    simp [run, not_named (stp_ok (by unfold Ok; omega) c) hs]

/-- No separator, no hash: from a name or a value. -/
theorem run_seg {h : Nat} (hh : h = 2 ∨ h = 4) (U : List Nat) (hU : ∀ c ∈ U, c ≠ 35 ∧ c ≠ 38 ∧ c ≠ 59) : (run h U).1 = if h = 4 ∨ 61 ∈ U then 4 else 2 := by
  induction U generalizing h with
  | nil => rcases hh with rfl | rfl <;> simp [run]
  | cons c U ih =>
    obtain ⟨h1, h2, h3⟩ := hU c (by simp)
    have hU' : ∀ c ∈ U, c ≠ 35 ∧ c ≠ 38 ∧ c ≠ 59 := fun x hx => hU x (List.mem_cons_of_mem _ hx)
    rcases hh with rfl | rfl
    · by_cases e : c = 61
      · subst e
        have : stp 2 61 = 4 := by decide
        simp [run, this, ih (.inr rfl) hU']
      · have es : stp 2 c = 2 := by simp [stp, h1, h2, h3, e]
        have e' : ¬ 61 = c := fun h => e h.symm
        simp [run, es, ih (.inl rfl) hU', e']
    · have es : stp 4 c = 4 := by simp [stp, h1, h2, h3]
      simp [run, es, ih (.inr rfl) hU']

theorem stp_sep {h c : Nat} (hh : h = 2 ∨ h = 4 ∨ h = 16) (hc : c = 38 ∨ c = 59) : stp h c = 2 := by
  unfold stp
  rw [if_neg (by omega), if_neg (by omega), if_pos (by omega)]

theorem stp_query {h c : Nat} (hh : h = 2 ∨ h = 4) (hc : c ≠ 35) : stp h c = 2 ∨ stp h c = 4 := by
  unfold stp
  rw [if_neg hc]
  repeat' split
  all_goals omega
theorem run_query {h : Nat} (hh : h = 2 ∨ h = 4) (U : List Nat) (hU : ∀ c ∈ U, c ≠ 35) : (run h U).1 = 2 ∨ (run h U).1 = 4 := by
  induction U generalizing h with
  | nil => exact hh
  | cons c U ih => exact ih (stp_query hh (hU c (by simp))) (fun x hx => hU x (List.mem_cons_of_mem _ hx))

/-- The last separator settles it. -/
theorem run_last {h : Nat} (hh : h = 2 ∨ h = 4) (U V : List Nat) (c : Nat) (hc : c = 38 ∨ c = 59) (hU : ∀ x ∈ U, x ≠ 35) (hV : ∀ x ∈ V, x ≠ 35 ∧ x ≠ 38 ∧ x ≠ 59) :
    (run h (U ++ c :: V)).1 = if 61 ∈ V then 4 else 2 := by
  rw [run_append]
  have h1 := run_query hh U hU
  have h2 : stp (run h U).1 c = 2 := stp_sep (by omega) hc
  simp only [run, h2]
  rw [run_seg (.inl rfl) V hV]
  simp

/-- From the path: up to the first question mark. -/
theorem run_path (U : List Nat) (hU : ∀ x ∈ U, x ≠ 35 ∧ x ≠ 63) : (run 1 U).1 = 1 := by
  induction U with
  | nil => rfl
  | cons c U ih =>
    obtain ⟨h1, h2⟩ := hU c (by simp)
    have es : stp 1 c = 1 := by simp [stp, h1, h2]
    simp [run, es, ih (fun x hx => hU x (List.mem_cons_of_mem _ hx))]
theorem run_path_q (U V : List Nat) (hU : ∀ x ∈ U, x ≠ 35 ∧ x ≠ 63) : (run 1 (U ++ 63 :: V)).1 = (run 2 V).1 := by
  rw [run_append]
  have : stp 1 63 = 2 := by decide
  simp [run, run_path U hU, this]

/-- Just past an action's end in a name. -/
theorem stp16 {c : Nat} (h : c ≠ 35) : stp 16 c = 2 := by
  unfold stp
  rw [if_neg h]
  repeat' split
  all_goals omega
theorem run16 (c : Nat) (V : List Nat) (h : c ≠ 35) : (run 16 (c :: V)).1 = (run 2 V).1 := by
  simp [run, stp16 h]

/-! ### Over all start states -/
def accE (at_ : Nat) (T : List Nat) : Nat → Nat
  | 0 => 0
  | j + 1 => if at_ &&& 2 ^ j = 0 then accE at_ T j else accE at_ T j ||| (run (2 ^ j) T).1
def accN (at_ : Nat) (T : List Nat) : Nat → Bool
  | 0 => false
  | j + 1 => if at_ &&& 2 ^ j = 0 then accN at_ T j else accN at_ T j || (run (2 ^ j) T).2

theorem pow_ok {j : Nat} (h : j < 5) : Ok (2 ^ j) := by
  have : j = 0 ∨ j = 1 ∨ j = 2 ∨ j = 3 ∨ j = 4 := by omega
  rcases this with rfl | rfl | rfl | rfl | rfl <;> simp [Ok]
theorem accE_lt (at_ : Nat) (T : List Nat) {j : Nat} (h : j ≤ 5) : accE at_ T j < 256 := by
  induction j with
  | zero => simp [accE]
  | succ j ih =>
    have ih' := ih (by omega)
    simp only [accE]
    split
    · exact ih'
    · exact Nat.or_lt_two_pow (n := 8) ih' (run_ok (pow_ok (by omega)) T).lt
end Go.Proofs.Qxb6602870a
