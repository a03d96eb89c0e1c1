import Derived.Test.Qxb6602870aOne
namespace Go.Proofs.Qxb6602870a
open Go.RowKit

def All (w : World) (at_ : Nat) (T : List Nat) (e : Ending) (w' : World) : Prop := e = .returned (.tuple #[.int .u8 ((accE at_ T 5 : Nat) : Int), .bool (accN at_ T 5)]) ∧ w' = w

theorem pow_mod {j : Nat} (h : j < 5) : (2 : Int) ^ j % 256 = ((2 ^ j : Nat) : Int) := by
  have : j = 0 ∨ j = 1 ∨ j = 2 ∨ j = 3 ∨ j = 4 := by omega
  rcases this with rfl | rfl | rfl | rfl | rfl <;> rfl

set_option maxRecDepth 100000 in
set_option maxHeartbeats 400000 in
theorem model_any {w : World} {a : Option Addr} {n : Nat} {T : List Nat} (hv : View w a n T) (cap at_ : Nat) (hat : at_ < 256) (hn : n ≤ 1048576) (hcap : n ≤ cap) :
    Calls Try.prog 14 #[.int .u8 (at_ : Int), .slice a n cap] w (All w at_ T) := by
  go_enter Try.func14, Try.ntmps14
  go_wp2
  go_loopg [6, 7, 8] 5 (fun gk s6 s7 s8 wr => wr = w ∧ ∃ j : Nat, j ≤ 5 ∧ gk = 5 - j ∧ s6 = .int .u8 ((accE at_ T j : Nat) : Int) ∧ s7 = .bool (accN at_ T j) ∧ s8 = .int .i64 (j : Int))
  case atStart => exact ⟨rfl, 0, by omega, rfl, rfl, rfl, rfl⟩
  case round =>
    obtain ⟨hwr, j, hj, rfl, rfl, rfl, rfl⟩ := hrel
    subst wr
    by_cases hlt : j < 5
    · obtain ⟨p, hp⟩ : ∃ p : Nat, p = 2 ^ j := ⟨_, rfl⟩
      have hok : Ok p := by rw [hp]; exact pow_ok hlt
      have hb : (2 : Int) ^ j % 256 = (p : Int) := by rw [hp]; exact pow_mod hlt
      obtain ⟨D, hD⟩ : ∃ D : Nat, D = at_ &&& p := ⟨_, rfl⟩
      have hand : bits .and .u8 (at_ : Int) (p : Int) = (D : Int) := by rw [hD]; exact u8_and_nat _ _ hat hok.lt
      have HD : Hid (D = at_ &&& 2 ^ j) := by rw [hD, hp]; rfl
      have Hok : Hid (Ok p) := hok
      have hE := accE_lt at_ T hj
      by_cases h0 : D = 0
      · have t0 : ((D : Int) == 0) = true := by rw [beq_iff_eq]; omega
        have e1 : Hid (accE at_ T (j + 1) = accE at_ T j ∧ accN at_ T (j + 1) = accN at_ T j) := by
          have := HD.out
          simp only [accE, accN]
          rw [if_pos (by omega), if_pos (by omega)]
          exact ⟨rfl, rfl⟩
        generalize accE at_ T j = E at *
        generalize accN at_ T j = N at *
        clear hp hD h0 hok hv
        go_wp2
        go_roundg (5 - (j + 1))
        case measure => omega
        case rel => exact ⟨rfl, j + 1, by omega, rfl, by rw [e1.out.1], by rw [e1.out.2], by go_num⟩
      · have t0 : ((D : Int) == 0) = false := by rw [beq_eq_false_iff_ne]; omega
        have hR := (run_ok hok T).lt
        have e1 : Hid (accE at_ T (j + 1) = accE at_ T j ||| (run p T).1 ∧ accN at_ T (j + 1) = (accN at_ T j || (run p T).2)) := by
          have := HD.out
          simp only [accE, accN]
          rw [if_neg (by omega), if_neg (by omega), hp]
          exact ⟨rfl, rfl⟩
        have hor : bits .or .u8 ((accE at_ T j : Nat) : Int) (((run p T).1 : Nat) : Int) = ((accE at_ T j ||| (run p T).1 : Nat) : Int) := u8_or_nat _ _ hE hR
        obtain ⟨E2, hE2⟩ : ∃ E2 : Nat, E2 = accE at_ T j ||| (run p T).1 := ⟨_, rfl⟩
        rw [← hE2] at hor
        have e1' : Hid (accE at_ T (j + 1) = E2 ∧ accN at_ T (j + 1) = (accN at_ T j || (run p T).2)) := by rw [hE2]; exact e1
        generalize accE at_ T j = E at *
        generalize accN at_ T j = N at *
        clear hp hD h0 hok e1 hE2
        go_wp2_with fail
        refine (one_any hv cap p Hok.out hn hcap).mono ?_
        rintro e w' ⟨rfl, hw'⟩
        subst w'
        generalize (run p T).1 = r1 at *
        cases hr2 : (run p T).2 with
        | true =>
          go_wp2
          go_roundg (5 - (j + 1))
          case measure => omega
          case rel => exact ⟨rfl, j + 1, by omega, rfl, by rw [e1'.out.1], by rw [e1'.out.2, hr2]; simp, by go_num⟩
        | false =>
          go_wp2
          go_roundg (5 - (j + 1))
          case measure => omega
          case rel => exact ⟨rfl, j + 1, by omega, rfl, by rw [e1'.out.1], by rw [e1'.out.2, hr2]; simp, by go_num⟩
    · have h5 : j = 5 := by omega
      subst h5
      go_wp2
      go_ret2
      exact ⟨rfl, rfl⟩
end Go.Proofs.Qxb6602870a
