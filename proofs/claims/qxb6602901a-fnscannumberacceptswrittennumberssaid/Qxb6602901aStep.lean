import Derived.Test.Qxb6602901aBase
import Derived.Test.Qxb6602901aPlain
namespace Go.Proofs.Qxb6602901a
open Go.RowKit
set_option linter.unusedSimpArgs false

theorem dig12 (c : Nat) (d : Bool) (hd : dig c = d) (w : World) : Calls Try.prog 12 #[.int .u8 (c : Int)] w fun e w' => e = .returned (.bool d) ∧ w' = w := by
  subst hd
  by_cases h1 : (48 : Int) ≤ (c : Int)
  · by_cases h2 : (c : Int) ≤ 57
    · have e : Hid (dig c = true) := by show _ = _; simp [dig]; omega
      go_enter Try.func12, Try.ntmps12
      go_wp2
      go_ret
      exact ⟨by rw [e.out]; rfl, rfl⟩
    · have e : Hid (dig c = false) := by show _ = _; simp [dig]; omega
      have t : decide ((c : Int) ≤ 57) = false := by simp; omega
      go_enter Try.func12, Try.ntmps12
      go_wp2
      go_ret
      exact ⟨by rw [e.out]; rfl, rfl⟩
  · have e : Hid (dig c = false) := by show _ = _; simp [dig]; omega
    have t : decide ((48 : Int) ≤ (c : Int)) = false := by simp; omega
    go_enter Try.func12, Try.ntmps12
    go_wp2
    go_ret
    exact ⟨by rw [e.out]; rfl, rfl⟩

theorem dig24 (c : Nat) (d : Bool) (hd : dig c = d) (w : World) : Calls Try.prog 24 #[.int .u8 (c : Int)] w fun e w' => e = .returned (.bool d) ∧ w' = w := by
  subst hd
  by_cases h1 : (48 : Int) ≤ (c : Int)
  · by_cases h2 : (c : Int) ≤ 57
    · have e : Hid (dig c = true) := by show _ = _; simp [dig]; omega
      go_enter Try.func24, Try.ntmps24
      go_wp2
      go_ret
      exact ⟨by rw [e.out]; rfl, rfl⟩
    · have e : Hid (dig c = false) := by show _ = _; simp [dig]; omega
      have t : decide ((c : Int) ≤ 57) = false := by simp; omega
      go_enter Try.func24, Try.ntmps24
      go_wp2
      go_ret
      exact ⟨by rw [e.out]; rfl, rfl⟩
  · have e : Hid (dig c = false) := by show _ = _; simp [dig]; omega
    have t : decide ((48 : Int) ≤ (c : Int)) = false := by simp; omega
    go_enter Try.func24, Try.ntmps24
    go_wp2
    go_ret
    exact ⟨by rw [e.out]; rfl, rfl⟩

def Step (w : World) (s c : Nat) (e : Ending) (w' : World) : Prop := e = .returned (.int .i64 ((nst s c : Nat) : Int)) ∧ w' = w
theorem step_mk {w : World} {s c k : Nat} (h : nst s c = k) : Step w s c (.returned (.int .i64 (k : Int))) w := by subst h; exact ⟨rfl, rfl⟩

set_option maxHeartbeats 1000000 in
theorem step_0 (c : Nat) (w : World) : Calls Try.prog 21 #[.int .i64 0, .int .u8 (c : Int)] w (Step w 0 c) := by
  cases hd : dig c with
  | true =>
    have Hd : Hid (dig c = true) := hd
    by_cases h45 : c = 45
    · have t45 : ((c : Int) == 45) = true := by rw [beq_iff_eq]; omega
      have HR : Hid (nst 0 c = 1) := by show _ = _; rw [h45]; decide
      clear hd h45
      go_enter Try.func21, Try.ntmps21
      go_wp2_with fail
      refine (dig12 c _ Hd.out w).mono ?_
      rintro e w' ⟨rfl, hw'⟩
      subst w'
      go_wp2
      go_ret
      exact step_mk HR.out
    · have t45 : ((c : Int) == 45) = false := by rw [beq_eq_false_iff_ne]; omega
      by_cases h48 : c = 48
      · have t48 : ((c : Int) == 48) = true := by rw [beq_iff_eq]; omega
        have HR : Hid (nst 0 c = 2) := by show _ = _; rw [h48]; decide
        clear hd h45 h48
        go_enter Try.func21, Try.ntmps21
        go_wp2_with fail
        refine (dig12 c _ Hd.out w).mono ?_
        rintro e w' ⟨rfl, hw'⟩
        subst w'
        go_wp2
        go_ret
        exact step_mk HR.out
      · have t48 : ((c : Int) == 48) = false := by rw [beq_eq_false_iff_ne]; omega
        have HR : Hid (nst 0 c = 3) := by show _ = _; simp [nst, h45, h48, hd]
        clear hd h45 h48
        go_enter Try.func21, Try.ntmps21
        go_wp2_with fail
        refine (dig12 c _ Hd.out w).mono ?_
        rintro e w' ⟨rfl, hw'⟩
        subst w'
        go_wp2
        go_ret
        exact step_mk HR.out
  | false =>
    have Hd : Hid (dig c = false) := hd
    by_cases h45 : c = 45
    · have t45 : ((c : Int) == 45) = true := by rw [beq_iff_eq]; omega
      have HR : Hid (nst 0 c = 1) := by show _ = _; rw [h45]; decide
      clear hd h45
      go_enter Try.func21, Try.ntmps21
      go_wp2_with fail
      refine (dig12 c _ Hd.out w).mono ?_
      rintro e w' ⟨rfl, hw'⟩
      subst w'
      go_wp2
      go_ret
      exact step_mk HR.out
    · have t45 : ((c : Int) == 45) = false := by rw [beq_eq_false_iff_ne]; omega
      by_cases h48 : c = 48
      · have t48 : ((c : Int) == 48) = true := by rw [beq_iff_eq]; omega
        have HR : Hid (nst 0 c = 2) := by show _ = _; rw [h48]; decide
        clear hd h45 h48
        go_enter Try.func21, Try.ntmps21
        go_wp2_with fail
        refine (dig12 c _ Hd.out w).mono ?_
        rintro e w' ⟨rfl, hw'⟩
        subst w'
        go_wp2
        go_ret
        exact step_mk HR.out
      · have t48 : ((c : Int) == 48) = false := by rw [beq_eq_false_iff_ne]; omega
        have HR : Hid (nst 0 c = 9) := by show _ = _; simp [nst, h45, h48, hd]
        clear hd h45 h48
        go_enter Try.func21, Try.ntmps21
        go_wp2_with fail
        refine (dig12 c _ Hd.out w).mono ?_
        rintro e w' ⟨rfl, hw'⟩
        subst w'
        go_wp2
        go_ret
        exact step_mk HR.out
set_option maxHeartbeats 1000000 in
theorem step_1 (c : Nat) (w : World) : Calls Try.prog 21 #[.int .i64 1, .int .u8 (c : Int)] w (Step w 1 c) := by
  cases hd : dig c with
  | true =>
    have Hd : Hid (dig c = true) := hd
    by_cases h48 : c = 48
    · have t48 : ((c : Int) == 48) = true := by rw [beq_iff_eq]; omega
      have HR : Hid (nst 1 c = 2) := by show _ = _; rw [h48]; decide
      clear hd h48
      go_enter Try.func21, Try.ntmps21
      go_wp2_with fail
      refine (dig12 c _ Hd.out w).mono ?_
      rintro e w' ⟨rfl, hw'⟩
      subst w'
      go_wp2
      go_ret
      exact step_mk HR.out
    · have t48 : ((c : Int) == 48) = false := by rw [beq_eq_false_iff_ne]; omega
      have HR : Hid (nst 1 c = 3) := by show _ = _; simp [nst, h48, hd]
      clear hd h48
      go_enter Try.func21, Try.ntmps21
      go_wp2_with fail
      refine (dig12 c _ Hd.out w).mono ?_
      rintro e w' ⟨rfl, hw'⟩
      subst w'
      go_wp2
      go_ret
      exact step_mk HR.out
  | false =>
    have Hd : Hid (dig c = false) := hd
    by_cases h48 : c = 48
    · have t48 : ((c : Int) == 48) = true := by rw [beq_iff_eq]; omega
      have HR : Hid (nst 1 c = 2) := by show _ = _; rw [h48]; decide
      clear hd h48
      go_enter Try.func21, Try.ntmps21
      go_wp2_with fail
      refine (dig12 c _ Hd.out w).mono ?_
      rintro e w' ⟨rfl, hw'⟩
      subst w'
      go_wp2
      go_ret
      exact step_mk HR.out
    · have t48 : ((c : Int) == 48) = false := by rw [beq_eq_false_iff_ne]; omega
      have HR : Hid (nst 1 c = 9) := by show _ = _; simp [nst, h48, hd]
      clear hd h48
      go_enter Try.func21, Try.ntmps21
      go_wp2_with fail
      refine (dig12 c _ Hd.out w).mono ?_
      rintro e w' ⟨rfl, hw'⟩
      subst w'
      go_wp2
      go_ret
      exact step_mk HR.out
set_option maxHeartbeats 1000000 in
theorem step_2 (c : Nat) (w : World) : Calls Try.prog 21 #[.int .i64 2, .int .u8 (c : Int)] w (Step w 2 c) := by
  cases hd : dig c with
  | true =>
    have Hd : Hid (dig c = true) := hd
    by_cases h46 : c = 46
    · have t46 : ((c : Int) == 46) = true := by rw [beq_iff_eq]; omega
      have HR : Hid (nst 2 c = 4) := by show _ = _; rw [h46]; decide
      clear hd h46
      go_enter Try.func21, Try.ntmps21
      go_wp2_with fail
      refine (dig12 c _ Hd.out w).mono ?_
      rintro e w' ⟨rfl, hw'⟩
      subst w'
      go_wp2
      go_ret
      exact step_mk HR.out
    · have t46 : ((c : Int) == 46) = false := by rw [beq_eq_false_iff_ne]; omega
      by_cases h101 : c = 101
      · have t101 : ((c : Int) == 101) = true := by rw [beq_iff_eq]; omega
        have HR : Hid (nst 2 c = 6) := by show _ = _; rw [h101]; decide
        clear hd h46 h101
        go_enter Try.func21, Try.ntmps21
        go_wp2_with fail
        refine (dig12 c _ Hd.out w).mono ?_
        rintro e w' ⟨rfl, hw'⟩
        subst w'
        go_wp2
        go_ret
        exact step_mk HR.out
      · have t101 : ((c : Int) == 101) = false := by rw [beq_eq_false_iff_ne]; omega
        by_cases h69 : c = 69
        · have t69 : ((c : Int) == 69) = true := by rw [beq_iff_eq]; omega
          have HR : Hid (nst 2 c = 6) := by show _ = _; rw [h69]; decide
          clear hd h46 h101 h69
          go_enter Try.func21, Try.ntmps21
          go_wp2_with fail
          refine (dig12 c _ Hd.out w).mono ?_
          rintro e w' ⟨rfl, hw'⟩
          subst w'
          go_wp2
          go_ret
          exact step_mk HR.out
        · have t69 : ((c : Int) == 69) = false := by rw [beq_eq_false_iff_ne]; omega
          have HR : Hid (nst 2 c = 9) := by show _ = _; simp [nst, h46, h101, h69]
          clear hd h46 h101 h69
          go_enter Try.func21, Try.ntmps21
          go_wp2_with fail
          refine (dig12 c _ Hd.out w).mono ?_
          rintro e w' ⟨rfl, hw'⟩
          subst w'
          go_wp2
          go_ret
          exact step_mk HR.out
  | false =>
    have Hd : Hid (dig c = false) := hd
    by_cases h46 : c = 46
    · have t46 : ((c : Int) == 46) = true := by rw [beq_iff_eq]; omega
      have HR : Hid (nst 2 c = 4) := by show _ = _; rw [h46]; decide
      clear hd h46
      go_enter Try.func21, Try.ntmps21
      go_wp2_with fail
      refine (dig12 c _ Hd.out w).mono ?_
      rintro e w' ⟨rfl, hw'⟩
      subst w'
      go_wp2
      go_ret
      exact step_mk HR.out
    · have t46 : ((c : Int) == 46) = false := by rw [beq_eq_false_iff_ne]; omega
      by_cases h101 : c = 101
      · have t101 : ((c : Int) == 101) = true := by rw [beq_iff_eq]; omega
        have HR : Hid (nst 2 c = 6) := by show _ = _; rw [h101]; decide
        clear hd h46 h101
        go_enter Try.func21, Try.ntmps21
        go_wp2_with fail
        refine (dig12 c _ Hd.out w).mono ?_
        rintro e w' ⟨rfl, hw'⟩
        subst w'
        go_wp2
        go_ret
        exact step_mk HR.out
      · have t101 : ((c : Int) == 101) = false := by rw [beq_eq_false_iff_ne]; omega
        by_cases h69 : c = 69
        · have t69 : ((c : Int) == 69) = true := by rw [beq_iff_eq]; omega
          have HR : Hid (nst 2 c = 6) := by show _ = _; rw [h69]; decide
          clear hd h46 h101 h69
          go_enter Try.func21, Try.ntmps21
          go_wp2_with fail
          refine (dig12 c _ Hd.out w).mono ?_
          rintro e w' ⟨rfl, hw'⟩
          subst w'
          go_wp2
          go_ret
          exact step_mk HR.out
        · have t69 : ((c : Int) == 69) = false := by rw [beq_eq_false_iff_ne]; omega
          have HR : Hid (nst 2 c = 9) := by show _ = _; simp [nst, h46, h101, h69]
          clear hd h46 h101 h69
          go_enter Try.func21, Try.ntmps21
          go_wp2_with fail
          refine (dig12 c _ Hd.out w).mono ?_
          rintro e w' ⟨rfl, hw'⟩
          subst w'
          go_wp2
          go_ret
          exact step_mk HR.out
set_option maxHeartbeats 1000000 in
theorem step_3 (c : Nat) (w : World) : Calls Try.prog 21 #[.int .i64 3, .int .u8 (c : Int)] w (Step w 3 c) := by
  cases hd : dig c with
  | true =>
    have Hd : Hid (dig c = true) := hd
    have HR : Hid (nst 3 c = 3) := by show _ = _; simp [nst, hd]
    clear hd
    go_enter Try.func21, Try.ntmps21
    go_wp2_with fail
    refine (dig12 c _ Hd.out w).mono ?_
    rintro e w' ⟨rfl, hw'⟩
    subst w'
    go_wp2
    go_ret
    exact step_mk HR.out
  | false =>
    have Hd : Hid (dig c = false) := hd
    by_cases h46 : c = 46
    · have t46 : ((c : Int) == 46) = true := by rw [beq_iff_eq]; omega
      have HR : Hid (nst 3 c = 4) := by show _ = _; rw [h46]; decide
      clear hd h46
      go_enter Try.func21, Try.ntmps21
      go_wp2_with fail
      refine (dig12 c _ Hd.out w).mono ?_
      rintro e w' ⟨rfl, hw'⟩
      subst w'
      go_wp2
      go_ret
      exact step_mk HR.out
    · have t46 : ((c : Int) == 46) = false := by rw [beq_eq_false_iff_ne]; omega
      by_cases h101 : c = 101
      · have t101 : ((c : Int) == 101) = true := by rw [beq_iff_eq]; omega
        have HR : Hid (nst 3 c = 6) := by show _ = _; rw [h101]; decide
        clear hd h46 h101
        go_enter Try.func21, Try.ntmps21
        go_wp2_with fail
        refine (dig12 c _ Hd.out w).mono ?_
        rintro e w' ⟨rfl, hw'⟩
        subst w'
        go_wp2
        go_ret
        exact step_mk HR.out
      · have t101 : ((c : Int) == 101) = false := by rw [beq_eq_false_iff_ne]; omega
        by_cases h69 : c = 69
        · have t69 : ((c : Int) == 69) = true := by rw [beq_iff_eq]; omega
          have HR : Hid (nst 3 c = 6) := by show _ = _; rw [h69]; decide
          clear hd h46 h101 h69
          go_enter Try.func21, Try.ntmps21
          go_wp2_with fail
          refine (dig12 c _ Hd.out w).mono ?_
          rintro e w' ⟨rfl, hw'⟩
          subst w'
          go_wp2
          go_ret
          exact step_mk HR.out
        · have t69 : ((c : Int) == 69) = false := by rw [beq_eq_false_iff_ne]; omega
          have HR : Hid (nst 3 c = 9) := by show _ = _; simp [nst, hd, h46, h101, h69]
          clear hd h46 h101 h69
          go_enter Try.func21, Try.ntmps21
          go_wp2_with fail
          refine (dig12 c _ Hd.out w).mono ?_
          rintro e w' ⟨rfl, hw'⟩
          subst w'
          go_wp2
          go_ret
          exact step_mk HR.out
set_option maxHeartbeats 1000000 in
theorem step_4 (c : Nat) (w : World) : Calls Try.prog 21 #[.int .i64 4, .int .u8 (c : Int)] w (Step w 4 c) := by
  cases hd : dig c with
  | true =>
    have Hd : Hid (dig c = true) := hd
    have HR : Hid (nst 4 c = 5) := by show _ = _; simp [nst, hd]
    clear hd
    go_enter Try.func21, Try.ntmps21
    go_wp2_with fail
    refine (dig12 c _ Hd.out w).mono ?_
    rintro e w' ⟨rfl, hw'⟩
    subst w'
    go_wp2
    go_ret
    exact step_mk HR.out
  | false =>
    have Hd : Hid (dig c = false) := hd
    have HR : Hid (nst 4 c = 9) := by show _ = _; simp [nst, hd]
    clear hd
    go_enter Try.func21, Try.ntmps21
    go_wp2_with fail
    refine (dig12 c _ Hd.out w).mono ?_
    rintro e w' ⟨rfl, hw'⟩
    subst w'
    go_wp2
    go_ret
    exact step_mk HR.out
set_option maxHeartbeats 1000000 in
theorem step_5 (c : Nat) (w : World) : Calls Try.prog 21 #[.int .i64 5, .int .u8 (c : Int)] w (Step w 5 c) := by
  cases hd : dig c with
  | true =>
    have Hd : Hid (dig c = true) := hd
    have HR : Hid (nst 5 c = 5) := by show _ = _; simp [nst, hd]
    clear hd
    go_enter Try.func21, Try.ntmps21
    go_wp2_with fail
    refine (dig12 c _ Hd.out w).mono ?_
    rintro e w' ⟨rfl, hw'⟩
    subst w'
    go_wp2
    go_ret
    exact step_mk HR.out
  | false =>
    have Hd : Hid (dig c = false) := hd
    by_cases h101 : c = 101
    · have t101 : ((c : Int) == 101) = true := by rw [beq_iff_eq]; omega
      have HR : Hid (nst 5 c = 6) := by show _ = _; rw [h101]; decide
      clear hd h101
      go_enter Try.func21, Try.ntmps21
      go_wp2_with fail
      refine (dig12 c _ Hd.out w).mono ?_
      rintro e w' ⟨rfl, hw'⟩
      subst w'
      go_wp2
      go_ret
      exact step_mk HR.out
    · have t101 : ((c : Int) == 101) = false := by rw [beq_eq_false_iff_ne]; omega
      by_cases h69 : c = 69
      · have t69 : ((c : Int) == 69) = true := by rw [beq_iff_eq]; omega
        have HR : Hid (nst 5 c = 6) := by show _ = _; rw [h69]; decide
        clear hd h101 h69
        go_enter Try.func21, Try.ntmps21
        go_wp2_with fail
        refine (dig12 c _ Hd.out w).mono ?_
        rintro e w' ⟨rfl, hw'⟩
        subst w'
        go_wp2
        go_ret
        exact step_mk HR.out
      · have t69 : ((c : Int) == 69) = false := by rw [beq_eq_false_iff_ne]; omega
        have HR : Hid (nst 5 c = 9) := by show _ = _; simp [nst, hd, h101, h69]
        clear hd h101 h69
        go_enter Try.func21, Try.ntmps21
        go_wp2_with fail
        refine (dig12 c _ Hd.out w).mono ?_
        rintro e w' ⟨rfl, hw'⟩
        subst w'
        go_wp2
        go_ret
        exact step_mk HR.out
set_option maxHeartbeats 1000000 in
theorem step_6 (c : Nat) (w : World) : Calls Try.prog 21 #[.int .i64 6, .int .u8 (c : Int)] w (Step w 6 c) := by
  cases hd : dig c with
  | true =>
    have Hd : Hid (dig c = true) := hd
    by_cases h43 : c = 43
    · have t43 : ((c : Int) == 43) = true := by rw [beq_iff_eq]; omega
      have HR : Hid (nst 6 c = 7) := by show _ = _; rw [h43]; decide
      clear hd h43
      go_enter Try.func21, Try.ntmps21
      go_wp2_with fail
      refine (dig12 c _ Hd.out w).mono ?_
      rintro e w' ⟨rfl, hw'⟩
      subst w'
      go_wp2
      go_ret
      exact step_mk HR.out
    · have t43 : ((c : Int) == 43) = false := by rw [beq_eq_false_iff_ne]; omega
      by_cases h45 : c = 45
      · have t45 : ((c : Int) == 45) = true := by rw [beq_iff_eq]; omega
        have HR : Hid (nst 6 c = 7) := by show _ = _; rw [h45]; decide
        clear hd h43 h45
        go_enter Try.func21, Try.ntmps21
        go_wp2_with fail
        refine (dig12 c _ Hd.out w).mono ?_
        rintro e w' ⟨rfl, hw'⟩
        subst w'
        go_wp2
        go_ret
        exact step_mk HR.out
      · have t45 : ((c : Int) == 45) = false := by rw [beq_eq_false_iff_ne]; omega
        have HR : Hid (nst 6 c = 8) := by show _ = _; simp [nst, h43, h45, hd]
        clear hd h43 h45
        go_enter Try.func21, Try.ntmps21
        go_wp2_with fail
        refine (dig12 c _ Hd.out w).mono ?_
        rintro e w' ⟨rfl, hw'⟩
        subst w'
        go_wp2
        go_ret
        exact step_mk HR.out
  | false =>
    have Hd : Hid (dig c = false) := hd
    by_cases h43 : c = 43
    · have t43 : ((c : Int) == 43) = true := by rw [beq_iff_eq]; omega
      have HR : Hid (nst 6 c = 7) := by show _ = _; rw [h43]; decide
      clear hd h43
      go_enter Try.func21, Try.ntmps21
      go_wp2_with fail
      refine (dig12 c _ Hd.out w).mono ?_
      rintro e w' ⟨rfl, hw'⟩
      subst w'
      go_wp2
      go_ret
      exact step_mk HR.out
    · have t43 : ((c : Int) == 43) = false := by rw [beq_eq_false_iff_ne]; omega
      by_cases h45 : c = 45
      · have t45 : ((c : Int) == 45) = true := by rw [beq_iff_eq]; omega
        have HR : Hid (nst 6 c = 7) := by show _ = _; rw [h45]; decide
        clear hd h43 h45
        go_enter Try.func21, Try.ntmps21
        go_wp2_with fail
        refine (dig12 c _ Hd.out w).mono ?_
        rintro e w' ⟨rfl, hw'⟩
        subst w'
        go_wp2
        go_ret
        exact step_mk HR.out
      · have t45 : ((c : Int) == 45) = false := by rw [beq_eq_false_iff_ne]; omega
        have HR : Hid (nst 6 c = 9) := by show _ = _; simp [nst, h43, h45, hd]
        clear hd h43 h45
        go_enter Try.func21, Try.ntmps21
        go_wp2_with fail
        refine (dig12 c _ Hd.out w).mono ?_
        rintro e w' ⟨rfl, hw'⟩
        subst w'
        go_wp2
        go_ret
        exact step_mk HR.out
set_option maxHeartbeats 1000000 in
theorem step_7 (c : Nat) (w : World) : Calls Try.prog 21 #[.int .i64 7, .int .u8 (c : Int)] w (Step w 7 c) := by
  cases hd : dig c with
  | true =>
    have Hd : Hid (dig c = true) := hd
    have HR : Hid (nst 7 c = 8) := by show _ = _; simp [nst, hd]
    clear hd
    go_enter Try.func21, Try.ntmps21
    go_wp2_with fail
    refine (dig12 c _ Hd.out w).mono ?_
    rintro e w' ⟨rfl, hw'⟩
    subst w'
    go_wp2
    go_ret
    exact step_mk HR.out
  | false =>
    have Hd : Hid (dig c = false) := hd
    have HR : Hid (nst 7 c = 9) := by show _ = _; simp [nst, hd]
    clear hd
    go_enter Try.func21, Try.ntmps21
    go_wp2_with fail
    refine (dig12 c _ Hd.out w).mono ?_
    rintro e w' ⟨rfl, hw'⟩
    subst w'
    go_wp2
    go_ret
    exact step_mk HR.out
set_option maxHeartbeats 1000000 in
theorem step_8 (c : Nat) (w : World) : Calls Try.prog 21 #[.int .i64 8, .int .u8 (c : Int)] w (Step w 8 c) := by
  cases hd : dig c with
  | true =>
    have Hd : Hid (dig c = true) := hd
    have HR : Hid (nst 8 c = 8) := by show _ = _; simp [nst, hd]
    clear hd
    go_enter Try.func21, Try.ntmps21
    go_wp2_with fail
    refine (dig12 c _ Hd.out w).mono ?_
    rintro e w' ⟨rfl, hw'⟩
    subst w'
    go_wp2
    go_ret
    exact step_mk HR.out
  | false =>
    have Hd : Hid (dig c = false) := hd
    have HR : Hid (nst 8 c = 9) := by show _ = _; simp [nst, hd]
    clear hd
    go_enter Try.func21, Try.ntmps21
    go_wp2_with fail
    refine (dig12 c _ Hd.out w).mono ?_
    rintro e w' ⟨rfl, hw'⟩
    subst w'
    go_wp2
    go_ret
    exact step_mk HR.out

theorem step_any (s c : Nat) (hs : s ≤ 8) (w : World) : Calls Try.prog 21 #[.int .i64 (s : Int), .int .u8 (c : Int)] w (Step w s c) := by
  have h : s = 0 ∨ s = 1 ∨ s = 2 ∨ s = 3 ∨ s = 4 ∨ s = 5 ∨ s = 6 ∨ s = 7 ∨ s = 8 := by omega
  rcases h with rfl | rfl | rfl | rfl | rfl | rfl | rfl | rfl | rfl
  · exact step_0 c w
  · exact step_1 c w
  · exact step_2 c w
  · exact step_3 c w
  · exact step_4 c w
  · exact step_5 c w
  · exact step_6 c w
  · exact step_7 c w
  · exact step_8 c w
end Go.Proofs.Qxb6602901a
