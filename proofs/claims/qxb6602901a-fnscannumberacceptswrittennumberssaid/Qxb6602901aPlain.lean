namespace Go.Proofs.Qxb6602901a

def dig (c : Nat) : Bool := decide (48 ≤ c ∧ c ≤ 57)

/-- The automaton's table; 9: it cannot move. -/
def nst : Nat → Nat → Nat
  | 0, c => if c = 45 then 1 else if c = 48 then 2 else if dig c = true then 3 else 9
  | 1, c => if c = 48 then 2 else if dig c = true then 3 else 9
  | 2, c => if c = 46 then 4 else if c = 101 ∨ c = 69 then 6 else 9
  | 3, c => if dig c = true then 3 else if c = 46 then 4 else if c = 101 ∨ c = 69 then 6 else 9
  | 4, c => if dig c = true then 5 else 9
  | 5, c => if dig c = true then 5 else if c = 101 ∨ c = 69 then 6 else 9
  | 6, c => if c = 43 ∨ c = 45 then 7 else if dig c = true then 8 else 9
  | 7, c => if dig c = true then 8 else 9
  | 8, c => if dig c = true then 8 else 9
  | _, _ => 9
def acc (s : Nat) : Bool := decide (s = 2 ∨ s = 3 ∨ s = 5 ∨ s = 8)

/-- The automaton, run from the state s as far as it can move: how far, and where it stops. -/
def aut (s : Nat) : List Nat → Nat × Nat
  | [] => (0, s)
  | c :: L => if nst s c = 9 then (0, s) else ((aut (nst s c) L).1 + 1, (aut (nst s c) L).2)

/-- The run that began at i0 stands in the state s at j. -/
structure At (T : List Nat) (i0 s j : Nat) : Prop where
  ge : i0 ≤ j
  le : j ≤ T.length
  run : aut 0 (T.drop i0) = (j - i0 + (aut s (T.drop j)).1, (aut s (T.drop j)).2)

theorem At.start {T : List Nat} {i : Nat} (h : i ≤ T.length) : At T i 0 i := ⟨Nat.le_refl _, h, by simp⟩

theorem drop_getD {T : List Nat} {j : Nat} (h : j < T.length) : T.drop j = T.getD j 0 :: T.drop (j + 1) := by
  rw [List.getD_eq_getElem?_getD, List.getElem?_eq_getElem h]
  simp

theorem At.step {T : List Nat} {i0 s j : Nat} (h : At T i0 s j) (hj : j < T.length) {s' : Nat} (hs : nst s (T.getD j 0) = s') (h9 : s' ≠ 9) : At T i0 s' (j + 1) := by
  refine ⟨by have := h.ge; omega, hj, ?_⟩
  have e : aut s (T.drop j) = ((aut s' (T.drop (j + 1))).1 + 1, (aut s' (T.drop (j + 1))).2) := by
    rw [drop_getD hj]
    simp only [aut, hs]
    rw [if_neg h9]
  rw [h.run, e]
  have := h.ge
  exact Prod.ext (by simp; omega) rfl

theorem At.done {T : List Nat} {i0 s j : Nat} (h : At T i0 s j) (hend : j < T.length → nst s (T.getD j 0) = 9) : aut 0 (T.drop i0) = (j - i0, s) := by
  rw [h.run]
  by_cases hj : j < T.length
  · rw [drop_getD hj]
    simp only [aut]
    rw [if_pos (hend hj)]
    rfl
  · have : T.drop j = [] := List.drop_eq_nil_of_le (by omega)
    rw [this]
    rfl

/-- A run over digits, in a state that digits do not leave. -/
theorem At.over {T : List Nat} {i0 s : Nat} (hs : s = 3 ∨ s = 5 ∨ s = 8) {j : Nat} (k : Nat) (h : At T i0 s j) (hk : j + k ≤ T.length) (hd : ∀ x, j ≤ x → x < j + k → dig (T.getD x 0) = true) : At T i0 s (j + k) := by
  induction k with
  | zero => exact h
  | succ k ih =>
    have h1 := ih (by omega) (fun x h1 h2 => hd x h1 (by omega))
    have hdk := hd (j + k) (by omega) (by omega)
    refine h1.step (by omega) (s' := s) ?_ (by omega)
    generalize T.getD (j + k) 0 = c at hdk
    rcases hs with rfl | rfl | rfl <;> simp [nst, hdk]
end Go.Proofs.Qxb6602901a
