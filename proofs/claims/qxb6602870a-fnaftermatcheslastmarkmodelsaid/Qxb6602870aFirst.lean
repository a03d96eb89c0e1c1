import Derived.Test.Qxb6602870aBase
import Derived.Test.Qxb6602870aPlain
namespace Go.Proofs.Qxb6602870a
open Go.RowKit

/-- What urlFirst answers. -/
def First (w : World) (T : List Nat) (c : Nat) (e : Ending) (w' : World) : Prop :=
  ∃ r : Int, e = .returned (.int .i64 r) ∧ w' = w ∧ ((r = -1 ∧ ¬ c ∈ T) ∨ ∃ k : Nat, r = k ∧ k < T.length ∧ T.getD k 0 = c ∧ ∀ j, j < k → T.getD j 0 ≠ c)

theorem mem_getD {T : List Nat} {x : Nat} (h : x ∈ T) : ∃ j, j < T.length ∧ T.getD j 0 = x := by
  obtain ⟨j, hj, e⟩ := List.mem_iff_getElem.1 h
  exact ⟨j, hj, by rw [List.getD_eq_getElem?_getD, List.getElem?_eq_getElem hj, e]; rfl⟩

set_option maxHeartbeats 400000 in
theorem first_any {w : World} {a : Option Addr} {n : Nat} {T : List Nat} (hv : View w a n T) (cap c : Nat) (hn : n ≤ 1048576) :
    Calls Try.prog 24 #[.slice a n cap, .int .u8 (c : Int)] w (First w T c) := by
  go_enter Try.func24, Try.ntmps24
  go_wp2
  go_loopg [5] n (fun gk i wr => wr = w ∧ ∃ k : Nat, i = .int .i64 (k : Int) ∧ k ≤ n ∧ gk = n - k ∧ ∀ j, j < k → T.getD j 0 ≠ c)
  case atStart => exact ⟨rfl, 0, rfl, Nat.zero_le _, rfl, fun j h => by omega⟩
  case round =>
    obtain ⟨hwr, k, rfl, hk, rfl, hall⟩ := hrel
    subst wr
    have HA : Hid (∀ j, j < k → T.getD j 0 ≠ c) := hall
    have HL : Hid (T.length = n) := hv.len
    clear hall
    by_cases hlt : k < n
    · obtain ⟨b, off, rfl, hc⟩ := hv.cell (by omega)
      have hcz := hc k hlt
      obtain ⟨z, hz⟩ : ∃ z : Nat, z = T.getD k 0 := ⟨_, rfl⟩
      rw [← hz] at hcz
      have HZ : Hid (z = T.getD k 0) := hz
      clear hz hc hv
      by_cases e : z = c
      · subst e
        go_wp2
        go_ret
        exact ⟨_, rfl, rfl, .inr ⟨k, rfl, by rw [HL.out]; exact hlt, HZ.out.symm, HA.out⟩⟩
      · have e' : ((z : Int) == (c : Int)) = false := by rw [beq_eq_false_iff_ne]; omega
        have He : Hid (z ≠ c) := e
        clear e
        go_wp2
        go_roundg (n - (k + 1))
        case measure => omega
        case rel => exact ⟨rfl, k + 1, by go_num, by omega, rfl, fun j hj => by by_cases e : j = k; (· rw [e, ← HZ.out]; exact He.out); (· exact HA.out j (by omega))⟩
    · clear hv
      go_wp2
      go_ret
      refine ⟨_, rfl, rfl, .inl ⟨rfl, fun hm => ?_⟩⟩
      obtain ⟨j, hj, e⟩ := mem_getD hm
      exact HA.out j (by have := HL.out; omega) e

def Sep (c : Nat) : Prop := c = 38 ∨ c = 59
/-- What urlLastSep answers. -/
def LastSep (w : World) (T : List Nat) (e : Ending) (w' : World) : Prop :=
  ∃ r : Int, e = .returned (.int .i64 r) ∧ w' = w ∧ ((r = -1 ∧ ∀ x ∈ T, ¬ Sep x) ∨ ∃ k : Nat, r = k ∧ k < T.length ∧ Sep (T.getD k 0) ∧ ∀ j, k < j → j < T.length → ¬ Sep (T.getD j 0))

set_option maxHeartbeats 400000 in
theorem last_any {w : World} {a : Option Addr} {n : Nat} {T : List Nat} (hv : View w a n T) (cap : Nat) (hn : n ≤ 1048576) :
    Calls Try.prog 27 #[.slice a n cap] w (LastSep w T) := by
  go_enter Try.func27, Try.ntmps27
  go_wp2
  go_loopg [3] n (fun gk i wr => wr = w ∧ ∃ k : Nat, i = .int .i64 ((k : Int) - 1) ∧ k ≤ n ∧ gk = k ∧ ∀ j, k ≤ j → j < n → ¬ Sep (T.getD j 0))
  case atStart => exact ⟨rfl, n, rfl, Nat.le_refl _, rfl, fun j h1 h2 => by omega⟩
  case round =>
    obtain ⟨hwr, k, rfl, hk, rfl, hall⟩ := hrel
    subst wr
    have HA : Hid (∀ j, gk ≤ j → j < n → ¬ Sep (T.getD j 0)) := hall
    have HL : Hid (T.length = n) := hv.len
    clear hall
    by_cases hlt : 0 < gk
    · obtain ⟨k, rfl⟩ : ∃ k, gk = k + 1 := ⟨gk - 1, by omega⟩
      obtain ⟨b, off, rfl, hc⟩ := hv.cell (by omega)
      have hcz := hc k (by omega)
      obtain ⟨z, hz⟩ : ∃ z : Nat, z = T.getD k 0 := ⟨_, rfl⟩
      rw [← hz] at hcz
      have HZ : Hid (z = T.getD k 0) := hz
      clear hz hc hv
      rw [show (((k + 1 : Nat) : Int) - 1) = (k : Int) by omega]
      by_cases e : Sep z
      · have HE : Hid (Sep z) := e
        rcases e with rfl | rfl
        · go_wp2
          go_ret
          exact ⟨_, rfl, rfl, .inr ⟨k, rfl, by rw [HL.out]; omega, by rw [← HZ.out]; exact HE.out, fun j h1 h2 => HA.out j (by omega) (by rw [← HL.out]; exact h2)⟩⟩
        · go_wp2
          go_ret
          exact ⟨_, rfl, rfl, .inr ⟨k, rfl, by rw [HL.out]; omega, by rw [← HZ.out]; exact HE.out, fun j h1 h2 => HA.out j (by omega) (by rw [← HL.out]; exact h2)⟩⟩
      · have HE : Hid (¬ Sep z) := e
        have e1 : ((z : Int) == 38) = false := by rw [beq_eq_false_iff_ne]; intro h; exact e (.inl (by omega))
        have e2 : ((z : Int) == 59) = false := by rw [beq_eq_false_iff_ne]; intro h; exact e (.inr (by omega))
        clear e
        go_wp2
        go_roundg k
        case measure => omega
        case rel => exact ⟨rfl, k, rfl, by omega, rfl, fun j h1 h2 => by by_cases e : j = k; (· rw [e, ← HZ.out]; exact HE.out); (· exact HA.out j (by omega) h2)⟩
    · clear hv
      have hk0 : gk = 0 := by omega
      subst hk0
      go_wp2
      go_ret
      refine ⟨_, rfl, rfl, .inl ⟨rfl, fun x hm => ?_⟩⟩
      obtain ⟨j, hj, e⟩ := mem_getD hm
      rw [← e]
      exact HA.out j (Nat.zero_le _) (by have := HL.out; omega)
end Go.Proofs.Qxb6602870a
