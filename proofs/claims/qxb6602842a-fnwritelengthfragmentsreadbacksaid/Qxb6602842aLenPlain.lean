import Derived.Test.Qxb6602842aBits
namespace Go.Proofs.Qxb6602842a

/-- The octets of a length determinant. -/
def enc (n : Nat) : List Nat := if n < 128 then [n] else if n < 16384 then [128 + n / 256, n % 256] else [192 + min (n / 16384) 4]
/-- The units that it is written for. -/
def cnt (n : Nat) : Nat := if n < 16384 then n else min (n / 16384) 4 * 16384
/-- Does another determinant follow? -/
def more (n : Nat) : Bool := decide (16384 ≤ n)

theorem stepB_aligned (B : List Nat) (v n : Nat) (hn : 8 ≤ n) : stepB B (8 * B.length) v n = B ++ [v / 2 ^ (n - 8) % 256] := by
  have h0 : 8 * B.length % 8 = 0 := by omega
  have hg : grownB B (8 * B.length) = B ++ [0] := by unfold grownB; rw [if_pos h0]
  have ht : min (8 - 0) n = 8 := Nat.min_eq_left hn
  unfold stepB
  simp only [hg, h0]
  rw [ht]
  have hl : (B ++ [0]).length - 1 = B.length := by simp
  rw [hl, List.set_append_right _ _ (Nat.le_refl _), Nat.sub_self]
  have e : newLast ((B ++ [0]).getD B.length 0) v n 0 8 = v / 2 ^ (n - 8) % 256 := by
    unfold newLast
    rw [List.getD_eq_getElem?_getD, List.getElem?_append_right (Nat.le_refl _), Nat.sub_self]
    simp
  rw [e]
  rfl

/-- The states of a write of one octet at an octet's boundary. -/
def One (B : List Nat) (v : Nat) (B' : List Nat) (m k : Nat) : Prop :=
  (k = 8 ∧ B' = B ∧ m = 8 * B.length) ∨ (k = 0 ∧ B' = B ++ [v % 256] ∧ m = 8 * B.length + 8)
theorem One.step {B : List Nat} {v : Nat} : ∀ B' m k, 0 < k → One B v B' m k → One B v (stepB B' m v k) (m + min (8 - m % 8) k) (k - min (8 - m % 8) k) := by
  intro B' m k hk h
  rcases h with ⟨rfl, rfl, rfl⟩ | ⟨rfl, _, _⟩
  · right
    have h0 : 8 * B'.length % 8 = 0 := by omega
    rw [stepB_aligned _ _ _ (Nat.le_refl _), h0]
    exact ⟨by simp, by simp, by simp⟩
  · omega

/-- The states of a write of two octets. -/
def Two (B : List Nat) (v : Nat) (B' : List Nat) (m k : Nat) : Prop :=
  (k = 16 ∧ B' = B ∧ m = 8 * B.length) ∨ (k = 8 ∧ B' = B ++ [v / 256 % 256] ∧ m = 8 * B.length + 8) ∨ (k = 0 ∧ B' = B ++ [v / 256 % 256, v % 256] ∧ m = 8 * B.length + 16)
theorem Two.step {B : List Nat} {v : Nat} : ∀ B' m k, 0 < k → Two B v B' m k → Two B v (stepB B' m v k) (m + min (8 - m % 8) k) (k - min (8 - m % 8) k) := by
  intro B' m k hk h
  rcases h with ⟨rfl, rfl, rfl⟩ | ⟨rfl, rfl, rfl⟩ | ⟨rfl, _, _⟩
  · right; left
    have h0 : 8 * B'.length % 8 = 0 := by omega
    rw [stepB_aligned _ _ _ (by omega), h0]
    exact ⟨by simp, by simp, by simp⟩
  · right; right
    have hl : 8 * B.length + 8 = 8 * (B ++ [v / 256 % 256]).length := by simp; omega
    have h0 : (8 * B.length + 8) % 8 = 0 := by omega
    rw [h0]
    refine ⟨by simp, ?_, by simp⟩
    rw [hl, stepB_aligned _ _ _ (Nat.le_refl _)]
    simp
  · omega

theorem cnt_le (n : Nat) : cnt n ≤ n := by
  unfold cnt
  split
  · omega
  · have : min (n / 16384) 4 ≤ n / 16384 := Nat.min_le_left _ _
    omega

theorem enc_byte (n : Nat) : ∀ z ∈ enc n, z < 256 := by
  intro z hz
  unfold enc at hz
  have h4 : min (n / 16384) 4 ≤ 4 := Nat.min_le_right _ _
  split at hz
  · simp at hz; omega
  · split at hz
    · simp at hz; omega
    · simp at hz; omega

theorem enc_len (n : Nat) : 1 ≤ (enc n).length ∧ (enc n).length ≤ 2 := by
  unfold enc
  split
  · simp
  · split <;> simp
end Go.Proofs.Qxb6602842a
