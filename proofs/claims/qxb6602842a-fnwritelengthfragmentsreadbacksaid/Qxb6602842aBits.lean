namespace Go.Proofs.Qxb6602842a

/-- Bit i of the stream held in B, counted from the most significant bit of the first octet. -/
def bitB (B : List Nat) (i : Nat) : Bool := (B.getD (i / 8) 0).testBit (7 - i % 8)

theorem bit_num (z k : Nat) : z / 2 ^ k % 2 = (z.testBit k).toNat := by
  rw [Nat.testBit_eq_decide_div_mod_eq]
  rcases Nat.mod_two_eq_zero_or_one (z / 2 ^ k) with h | h <;> simp [h]

/-- What the last octet becomes in one round. -/
def newLast (last v n used take : Nat) : Nat := last ||| (v / 2 ^ (n - take) % 2 ^ take) * 2 ^ (8 - used - take)

theorem newLast_bit (last v n used take j : Nat) (h1 : used + take ≤ 8) (h2 : take ≤ n) (hj : j < 8) :
    (newLast last v n used take).testBit (7 - j) = (last.testBit (7 - j) || (decide (used ≤ j ∧ j < used + take) && v.testBit (n - 1 - (j - used)))) := by
  unfold newLast
  rw [Nat.testBit_or, ← Nat.shiftLeft_eq, Nat.testBit_shiftLeft, Nat.testBit_mod_two_pow, ← Nat.shiftRight_eq_div_pow, Nat.testBit_shiftRight]
  by_cases c1 : j < used + take
  · by_cases c2 : used ≤ j
    · have e1 : 7 - j ≥ 8 - used - take := by omega
      have e2 : 7 - j - (8 - used - take) < take := by omega
      have e3 : n - take + (7 - j - (8 - used - take)) = n - 1 - (j - used) := by omega
      simp [e1, e2, e3, c1, c2]
    · have e2 : ¬ 7 - j - (8 - used - take) < take := by omega
      simp [e2, c2]
  · have e1 : ¬ 7 - j ≥ 8 - used - take := by omega
    simp [e1, c1]

theorem newLast_lt (last v n used take : Nat) (h1 : used + take ≤ 8) (hl : last < 256) : newLast last v n used take < 256 := by
  unfold newLast
  apply Nat.or_lt_two_pow (n := 8) hl
  have h := Nat.mod_lt (v / 2 ^ (n - take)) (show 0 < 2 ^ take from Nat.pow_pos (by omega))
  have e : (256 : Nat) = 2 ^ used * (2 ^ take * 2 ^ (8 - used - take)) := by
    rw [← Nat.pow_add, ← Nat.pow_add, show used + (take + (8 - used - take)) = 8 by omega]
  have p1 : 0 < 2 ^ used := Nat.pow_pos (by omega)
  have p2 : 0 < 2 ^ (8 - used - take) := Nat.pow_pos (by omega)
  have h3 : v / 2 ^ (n - take) % 2 ^ take * 2 ^ (8 - used - take) < 2 ^ take * 2 ^ (8 - used - take) := Nat.mul_lt_mul_of_pos_right h p2
  have h4 : 2 ^ take * 2 ^ (8 - used - take) ≤ 2 ^ used * (2 ^ take * 2 ^ (8 - used - take)) := Nat.le_mul_of_pos_left _ p1
  show _ < 256
  omega

/-- The state of WriteBits' loop: m bits stand in B, n are to come, of those that were to be written from (B0, m0) on. -/
structure Inv (B0 : List Nat) (m0 v n0 : Nat) (B : List Nat) (m n : Nat) : Prop where
  sum : m + n = m0 + n0
  le : m0 ≤ m
  len : B.length = (m + 7) / 8
  byte : ∀ z ∈ B, z < 256
  bits : ∀ i, i < 8 * B.length → bitB B i = (if i < m0 then bitB B0 i else if i < m then v.testBit (m0 + n0 - 1 - i) else false)

/-- One round. -/
def grownB (B : List Nat) (m : Nat) : List Nat := if m % 8 = 0 then B ++ [0] else B
def stepB (B : List Nat) (m v n : Nat) : List Nat :=
  let B' := grownB B m
  B'.set (B'.length - 1) (newLast (B'.getD (B'.length - 1) 0) v n (m % 8) (min (8 - m % 8) n))

theorem grown_len {B : List Nat} {m : Nat} (h : B.length = (m + 7) / 8) : (grownB B m).length = m / 8 + 1 := by
  unfold grownB
  split
  · simp; omega
  · omega

theorem getD_mem_lt {B : List Nat} (hb : ∀ z ∈ B, z < 256) (i : Nat) : B.getD i 0 < 256 := by
  by_cases h : i < B.length
  · rw [List.getD_eq_getElem?_getD, List.getElem?_eq_getElem h]; exact hb _ (List.getElem_mem h)
  · rw [List.getD_eq_getElem?_getD, List.getElem?_eq_none (by omega)]; simp

theorem grown_byte {B : List Nat} (hb : ∀ z ∈ B, z < 256) (m : Nat) : ∀ z ∈ grownB B m, z < 256 := by
  intro z hz
  unfold grownB at hz
  split at hz
  · rcases List.mem_append.1 hz with hz | hz
    · exact hb z hz
    · simp at hz; omega
  · exact hb z hz

theorem stepB_len {B : List Nat} {m : Nat} (h : B.length = (m + 7) / 8) (v : Nat) {n : Nat} (hn : 0 < n) : (stepB B m v n).length = (m + min (8 - m % 8) n + 7) / 8 := by
  have hg := grown_len h
  have hmin2 : min (8 - m % 8) n ≤ 8 - m % 8 := Nat.min_le_left _ _
  have hmin3 : 0 < min (8 - m % 8) n := by rw [Nat.lt_min]; omega
  generalize htk : min (8 - m % 8) n = take at *
  have hsl : (stepB B m v n).length = m / 8 + 1 := by simp [stepB, hg]
  omega

theorem stepB_byte {B : List Nat} (hb : ∀ z ∈ B, z < 256) (m v n : Nat) : ∀ z ∈ stepB B m v n, z < 256 := by
  intro z hz
  have hgb := grown_byte hb m
  unfold stepB at hz
  rcases List.mem_or_eq_of_mem_set hz with hz | hz
  · exact hgb z hz
  · have hmin2 : min (8 - m % 8) n ≤ 8 - m % 8 := Nat.min_le_left _ _
    rw [hz]; exact newLast_lt _ _ _ _ _ (by omega) (getD_mem_lt hgb _)

theorem Inv.start {B0 : List Nat} {m0 : Nat} (v n0 : Nat) (hl : B0.length = (m0 + 7) / 8) (hb : ∀ z ∈ B0, z < 256) (hz : ∀ i, m0 ≤ i → i < 8 * B0.length → bitB B0 i = false) :
    Inv B0 m0 v n0 B0 m0 n0 :=
  ⟨rfl, Nat.le_refl _, hl, hb, fun i hi => by
    by_cases c : i < m0
    · simp [c]
    · simp [c]; exact hz i (by omega) hi⟩

theorem Inv.step {B0 : List Nat} {m0 v n0 : Nat} {B : List Nat} {m n : Nat} (h : Inv B0 m0 v n0 B m n) (hn : 0 < n) :
    Inv B0 m0 v n0 (stepB B m v n) (m + min (8 - m % 8) n) (n - min (8 - m % 8) n) := by
  have hg := grown_len h.len
  have hgb : ∀ z ∈ grownB B m, z < 256 := by
    intro z hz
    unfold grownB at hz
    split at hz
    · rcases List.mem_append.1 hz with hz | hz
      · exact h.byte z hz
      · simp at hz; omega
    · exact h.byte z hz
  have hgbit : ∀ i, bitB (grownB B m) i = bitB B i := by
    intro i
    unfold grownB
    split
    · unfold bitB
      by_cases c : i / 8 < B.length
      · rw [List.getD_eq_getElem?_getD, List.getElem?_append_left c, List.getD_eq_getElem?_getD]
      · rw [List.getD_eq_getElem?_getD, List.getElem?_append_right (by omega), List.getD_eq_getElem?_getD, List.getElem?_eq_none (l := B) (by omega)]
        cases hq : i / 8 - B.length <;> simp
    · rfl
  have hout : ∀ i, 8 * B.length ≤ i → bitB B i = false := by
    intro i hi
    unfold bitB
    rw [List.getD_eq_getElem?_getD, List.getElem?_eq_none (by omega)]
    simp
  have hlast : (grownB B m).length - 1 = m / 8 := by omega
  have hmin : min (8 - m % 8) n ≤ n := Nat.min_le_right _ _
  have hmin2 : min (8 - m % 8) n ≤ 8 - m % 8 := Nat.min_le_left _ _
  have hmod := Nat.mod_lt m (show 8 > 0 by omega)
  have hmin3 : 0 < min (8 - m % 8) n := by rw [Nat.lt_min]; omega
  generalize htk : min (8 - m % 8) n = take at *
  have hsl : (stepB B m v n).length = m / 8 + 1 := by simp [stepB, hg]
  refine ⟨by have := h.sum; omega, by have := h.le; omega, by rw [hsl]; omega, ?_, ?_⟩
  · intro z hz
    unfold stepB at hz
    rcases List.mem_or_eq_of_mem_set hz with hz | hz
    · exact hgb z hz
    · rw [hz, htk]; exact newLast_lt _ _ _ _ _ (by omega) (getD_mem_lt hgb _)
  · intro i hi
    rw [hsl] at hi
    have hsum := h.sum
    have hle := h.le
    have hbase : bitB B i = (if i < m0 then bitB B0 i else if i < m then v.testBit (m0 + n0 - 1 - i) else false) := by
      by_cases c : i < 8 * B.length
      · exact h.bits i c
      · rw [hout i (by omega)]
        have hl := h.len
        rw [if_neg (by omega), if_neg (by omega)]
    by_cases c : i / 8 = m / 8
    · have e1 : bitB (stepB B m v n) i = (newLast ((grownB B m).getD (m / 8) 0) v n (m % 8) take).testBit (7 - i % 8) := by
        unfold bitB stepB
        simp only [hlast, htk]
        rw [List.getD_eq_getElem?_getD, c, List.getElem?_set_self (by omega)]
        rfl
      rw [e1, newLast_bit _ _ _ _ _ _ (by omega) hmin (Nat.mod_lt _ (by omega))]
      have e2 : ((grownB B m).getD (m / 8) 0).testBit (7 - i % 8) = bitB B i := by rw [← hgbit i]; unfold bitB; rw [c]
      rw [e2, hbase]
      by_cases c1 : i < m
      · have e3 : ¬ m % 8 ≤ i % 8 := by omega
        have e4 : i < m + take := by omega
        simp [c1, e3, e4]
      · have c0 : ¬ i < m0 := by omega
        have e3 : m % 8 ≤ i % 8 := by omega
        have e5 : n - 1 - (i % 8 - m % 8) = m0 + n0 - 1 - i := by omega
        by_cases c2 : i < m + take
        · have e4 : i % 8 < m % 8 + take := by omega
          simp [c0, c1, c2, e3, e4, e5]
        · have e4 : ¬ i % 8 < m % 8 + take := by omega
          simp [c0, c1, c2, e4]
    · have e1 : bitB (stepB B m v n) i = bitB (grownB B m) i := by
        unfold bitB stepB
        simp only [hlast]
        rw [List.getD_eq_getElem?_getD, List.getElem?_set_ne (by omega), List.getD_eq_getElem?_getD]
      rw [e1, hgbit, hbase]
      have e4 : i < m := by omega
      have e5 : i < m + take := by omega
      simp [e4, e5]

end Go.Proofs.Qxb6602842a
