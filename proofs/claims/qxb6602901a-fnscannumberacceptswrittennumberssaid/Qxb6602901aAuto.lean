import Derived.Test.Qxb6602901aStep
namespace Go.Proofs.Qxb6602901a
open Go.RowKit

theorem acc_any (s : Nat) (hs : s ≤ 8) (w : World) : Calls Try.prog 22 #[.int .i64 (s : Int)] w fun e w' => e = .returned (.bool (acc s)) ∧ w' = w := by
  have h : s = 0 ∨ s = 1 ∨ s = 2 ∨ s = 3 ∨ s = 4 ∨ s = 5 ∨ s = 6 ∨ s = 7 ∨ s = 8 := by omega
  rcases h with rfl | rfl | rfl | rfl | rfl | rfl | rfl | rfl | rfl
  all_goals
    go_enter Try.func22, Try.ntmps22
    go_wp2
    go_ret
    exact ⟨rfl, rfl⟩

theorem nst_le {s c : Nat} (h : nst s c ≠ 9) : nst s c ≤ 8 := by
  unfold nst at h ⊢
  repeat' split at *
  all_goals omega

/-- What a scan from i answers. -/
def Scan (w : World) (T : List Nat) (i : Nat) (e : Ending) (w' : World) : Prop :=
  e = .returned (.tuple #[.int .i64 ((i + (aut 0 (T.drop i)).1 : Nat) : Int), .bool (acc (aut 0 (T.drop i)).2)]) ∧ w' = w
theorem scan_mk {w : World} {T : List Nat} {i j s : Nat} {b : Bool} (hij : i ≤ j) (h : aut 0 (T.drop i) = (j - i, s)) (hb : acc s = b) : Scan w T i (.returned (.tuple #[.int .i64 (j : Int), .bool b])) w := by
  unfold Scan
  rw [h]
  subst hb
  refine ⟨?_, rfl⟩
  show _ = Ending.returned (.tuple #[.int .i64 ((i + (j - i) : Nat) : Int), .bool (acc s)])
  rw [show i + (j - i) = j by omega]

set_option maxRecDepth 100000 in
set_option maxHeartbeats 400000 in
theorem auto_any {w : World} {a : Option Addr} {n : Nat} {T : List Nat} (hv : View w a n T) (cap i : Nat) (hi : i ≤ n) (hn : n ≤ 2097152) :
    Calls Try.prog 10 #[.slice a n cap, .int .i64 (i : Int)] w (Scan w T i) := by
  have HL : Hid (T.length = n) := hv.len
  go_enter Try.func10, Try.ntmps10
  go_wp2
  go_loopg [6, 7] (n - i) (fun gk s6 s7 wr => wr = w ∧ ∃ s j : Nat, s ≤ 8 ∧ s6 = .int .i64 (s : Int) ∧ s7 = .int .i64 (j : Int) ∧ j ≤ n ∧ gk = n - j ∧ At T i s j)
  case atStart => exact ⟨rfl, 0, i, by omega, rfl, rfl, hi, rfl, At.start (by rw [HL.out]; exact hi)⟩
  case round =>
    obtain ⟨hwr, s, j, hs, rfl, rfl, hj, rfl, hAt⟩ := hrel
    subst wr
    by_cases hlt : j < n
    · obtain ⟨b, off, rfl, hc⟩ := hv.cell (by omega)
      have hcz := hc j hlt
      have hstep := fun h9 => hAt.step (s' := nst s (T.getD j 0)) (by rw [HL.out]; exact hlt) rfl h9
      have hdone := fun h9 => hAt.done (fun _ => h9)
      have hge := hAt.ge
      generalize T.getD j 0 = c at hcz hstep hdone
      have Hstep : Hid (nst s c ≠ 9 → At T i (nst s c) (j + 1)) := hstep
      have Hdone : Hid (nst s c = 9 → aut 0 (T.drop i) = (j - i, s)) := hdone
      clear hstep hdone hc hAt hv
      go_wp2_with fail
      refine (step_any s c hs w).mono ?_
      rintro e w' ⟨rfl, hw'⟩
      subst w'
      by_cases h9 : nst s c = 9
      · rw [h9]
        go_wp2_with fail
        refine (acc_any s hs w).mono ?_
        rintro e w' ⟨rfl, hw'⟩
        subst w'
        go_wp2
        go_ret2
        exact scan_mk hge (Hdone.out h9) rfl
      · have hAt2 := Hstep.out h9
        have hs2 := nst_le h9
        have t9 : (((nst s c : Nat) : Int) == 9) = false := by rw [beq_eq_false_iff_ne]; omega
        have H9 : Hid (¬ nst s c = 9) := h9
        generalize nst s c = s2 at *
        clear h9 Hstep Hdone
        go_wp2
        go_roundg (n - (j + 1))
        case measure => omega
        case rel => exact ⟨rfl, s2, j + 1, hs2, rfl, by go_num, hlt, rfl, hAt2⟩
    · have hge := hAt.ge
      have hd := hAt.done (fun h => by rw [HL.out] at h; omega)
      have Hd : Hid (aut 0 (T.drop i) = (j - i, s)) := hd
      clear hd hv
      go_wp2_with fail
      refine (acc_any s hs w).mono ?_
      rintro e w' ⟨rfl, hw'⟩
      subst w'
      go_wp2
      go_ret2
      exact scan_mk hge Hd.out rfl

/-- What skipDigits answers. -/
def Skips (w : World) (T : List Nat) (i : Nat) (e : Ending) (w' : World) : Prop :=
  ∃ j : Nat, e = .returned (.int .i64 (j : Int)) ∧ w' = w ∧ i ≤ j ∧ j ≤ T.length ∧ (∀ x, i ≤ x → x < j → dig (T.getD x 0) = true) ∧ (j < T.length → dig (T.getD j 0) = false)

set_option maxRecDepth 100000 in
set_option maxHeartbeats 400000 in
theorem skip_any {w : World} {a : Option Addr} {n : Nat} {T : List Nat} (hv : View w a n T) (cap i : Nat) (hi : i ≤ n) (hn : n ≤ 2097152) :
    Calls Try.prog 25 #[.slice a n cap, .int .i64 (i : Int)] w (Skips w T i) := by
  have HL : Hid (T.length = n) := hv.len
  go_enter Try.func25, Try.ntmps25
  go_wp2
  go_loopg [1] (n - i) (fun gk s1 wr => wr = w ∧ ∃ j : Nat, s1 = .int .i64 (j : Int) ∧ i ≤ j ∧ j ≤ n ∧ gk = n - j ∧ ∀ x, i ≤ x → x < j → dig (T.getD x 0) = true)
  case atStart => exact ⟨rfl, i, rfl, Nat.le_refl _, hi, rfl, fun x h1 h2 => by omega⟩
  case round =>
    obtain ⟨hwr, j, rfl, hij, hj, rfl, hall⟩ := hrel
    subst wr
    have HA : Hid (∀ x, i ≤ x → x < j → dig (T.getD x 0) = true) := hall
    clear hall
    by_cases hlt : j < n
    · obtain ⟨b, off, rfl, hc⟩ := hv.cell (by omega)
      have hcz := hc j hlt
      obtain ⟨c, hcc⟩ : ∃ c : Nat, c = T.getD j 0 := ⟨_, rfl⟩
      rw [← hcc] at hcz
      have HC : Hid (c = T.getD j 0) := hcc
      clear hcc hc hv
      cases hd : dig c with
      | true =>
        have Hd : Hid (dig c = true) := hd
        clear hd
        go_wp2_with fail
        refine (dig24 c _ Hd.out w).mono ?_
        rintro e w' ⟨rfl, hw'⟩
        subst w'
        go_wp2
        go_roundg (n - (j + 1))
        case measure => omega
        case rel => exact ⟨rfl, j + 1, by go_num, by omega, hlt, rfl, fun x h1 h2 => by by_cases e : x = j; (· rw [e, ← HC.out]; exact Hd.out); (· exact HA.out x h1 (by omega))⟩
      | false =>
        have Hd : Hid (dig c = false) := hd
        clear hd
        go_wp2_with fail
        refine (dig24 c _ Hd.out w).mono ?_
        rintro e w' ⟨rfl, hw'⟩
        subst w'
        go_wp2
        go_ret
        exact ⟨j, rfl, rfl, hij, by rw [HL.out]; exact hj, HA.out, fun _ => by rw [← HC.out]; exact Hd.out⟩
    · have t : decide ((j : Int) < (n : Int)) = false := by simp; omega
      clear hv
      go_wp2
      go_ret
      exact ⟨j, rfl, rfl, hij, by rw [HL.out]; exact hj, HA.out, fun h => by rw [HL.out] at h; omega⟩
end Go.Proofs.Qxb6602901a
