import Derived.Test.Qxb6602842aLenPlain
namespace Go.Proofs.Qxb6602842a

/-- Octets of fragments' determinants, and the units that they stand for. -/
def Frag (F : List Nat) : Prop := ∀ z ∈ F, 193 ≤ z ∧ z ≤ 196
def tot : List Nat → Nat
  | [] => 0
  | z :: F => (z - 192) * 16384 + tot F

theorem tot_append (F G : List Nat) : tot (F ++ G) = tot F + tot G := by
  induction F with
  | nil => simp [tot]
  | cons z F ih => simp [tot, ih]; omega

theorem Frag.snoc {F : List Nat} (h : Frag F) {z : Nat} (hz : 193 ≤ z ∧ z ≤ 196) : Frag (F ++ [z]) := by
  intro x hx
  rcases List.mem_append.1 hx with h' | h'
  · exact h x h'
  · simp at h'; subst h'; exact hz

/-- The encoder's loop, nothing done yet: s determinants are written, rem units are left. -/
structure Going (n s rem : Nat) (E : List Nat) : Prop where
  frag : Frag E
  sum : tot E + rem = n
  len : E.length = s
  few : rem + 65536 * s ≤ n ∨ (rem < 16384 ∧ 65536 * s ≤ n + 65536)

/-- Done: fragments, then the last determinant. -/
structure Done (n : Nat) (E F : List Nat) (r : Nat) : Prop where
  eq : E = F ++ enc r
  frag : Frag F
  sum : tot F + r = n
  small : r < 16384
  len : 65536 * F.length ≤ n + 65536

theorem Going.start (n : Nat) : Going n 0 n [] := ⟨by intro z hz; simp at hz, by simp [tot], rfl, Or.inl (by omega)⟩

theorem sub_add_le (rem y n X : Nat) (c : X ≤ rem) (hf : rem + y ≤ n) : rem - X + (y + X) ≤ n := by omega

theorem Going.more {n s rem : Nat} {E : List Nat} (h : Going n s rem E) (hm : 16384 ≤ rem) : Going n (s + 1) (rem - cnt rem) (E ++ enc rem) := by
  have hq4 : min (rem / 16384) 4 ≤ 4 := Nat.min_le_right _ _
  have hql : min (rem / 16384) 4 ≤ rem / 16384 := Nat.min_le_left _ _
  have hq1 : 1 ≤ min (rem / 16384) 4 := by rw [Nat.le_min]; omega
  have hc : rem < 65536 → min (rem / 16384) 4 = rem / 16384 := fun h => Nat.min_eq_left (by omega)
  have hd : 65536 ≤ rem → min (rem / 16384) 4 = 4 := fun h => Nat.min_eq_right (by omega)
  have e : enc rem = [192 + min (rem / 16384) 4] := by unfold enc; rw [if_neg (by omega), if_neg (by omega)]
  have ec : cnt rem = min (rem / 16384) 4 * 16384 := by unfold cnt; rw [if_neg (by omega)]
  rw [e, ec]
  generalize min (rem / 16384) 4 = q at *
  have hs := h.sum
  have hf := h.few
  refine ⟨h.frag.snoc (by omega), ?_, ?_, ?_⟩
  · rw [tot_append]; simp [tot]; omega
  · have := h.len; simp; omega
  · by_cases c : 65536 ≤ rem
    · have hq := hd c
      subst hq
      left
      have hf' : rem + 65536 * s ≤ n := by omega
      rw [Nat.mul_succ]
      exact sub_add_le _ _ _ _ c hf'
    · have hq := hc (by omega); clear hc hd; right; omega

theorem Going.last {n s rem : Nat} {E : List Nat} (h : Going n s rem E) (hm : rem < 16384) : Done n (E ++ enc rem) E rem :=
  ⟨rfl, h.frag, h.sum, hm, by have := h.few; have := h.len; omega⟩

theorem Going.bound {n s rem : Nat} {E : List Nat} (h : Going n s rem E) (hn : n ≤ 67108864) : s ≤ 1025 := by have := h.few; omega

theorem cnt_more {rem : Nat} (h : 16384 ≤ rem) : 16384 ≤ cnt rem ∧ cnt rem ≤ 65536 ∧ cnt rem % 16384 = 0 ∧ more rem = true := by
  have hq4 : min (rem / 16384) 4 ≤ 4 := Nat.min_le_right _ _
  have hq1 : 1 ≤ min (rem / 16384) 4 := by rw [Nat.le_min]; omega
  have ec : cnt rem = min (rem / 16384) 4 * 16384 := by unfold cnt; rw [if_neg (by omega)]
  rw [ec]
  generalize min (rem / 16384) 4 = q at *
  exact ⟨by omega, by omega, by omega, by unfold more; simp; omega⟩
theorem cnt_last {rem : Nat} (h : rem < 16384) : cnt rem = rem ∧ more rem = false := by
  exact ⟨by unfold cnt; rw [if_pos h], by unfold more; simp; omega⟩

theorem tot_take {F : List Nat} {k : Nat} (h : k < F.length) : tot (F.take (k + 1)) = tot (F.take k) + (F.getD k 0 - 192) * 16384 := by
  rw [List.take_succ_eq_append_getElem h, tot_append, List.getD_eq_getElem?_getD, List.getElem?_eq_getElem h]
  simp [tot]
theorem tot_le {F : List Nat} (k : Nat) : tot (F.take k) ≤ tot F := by
  have h := tot_append (F.take k) (F.drop k)
  rw [List.take_append_drop] at h
  omega
end Go.Proofs.Qxb6602842a
