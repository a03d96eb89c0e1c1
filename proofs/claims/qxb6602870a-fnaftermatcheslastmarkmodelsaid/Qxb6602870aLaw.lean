import Derived.Test.Qxb6602870aModel
import Derived.Deep.CutBlock
namespace Go.Proofs.Qxb6602870a
open Go.RowKit

set_option maxRecDepth 100000 in
set_option maxHeartbeats 1000000 in
theorem after_any {w : World} {a : Option Addr} {n : Nat} {T : List Nat} (hv : View w a n T) (cap at_ : Nat) (hat : at_ < 256) (hn : n ≤ 1048576) :
    Calls Try.prog 18 #[.int .u8 (at_ : Int), .slice a n cap] w (All w at_ T) := by
  go_enter Try.func18, Try.ntmps18
  go_wp2
  go_loopg [4, 5, 6] 5 (fun gk s4 s5 s6 wr => wr = w ∧ ∃ j : Nat, j ≤ 5 ∧ gk = 5 - j ∧ s4 = .int .u8 ((accE at_ T j : Nat) : Int) ∧ s5 = .bool (accN at_ T j) ∧ s6 = .int .u8 ((2 ^ j : Nat) : Int))
  case atStart => exact ⟨rfl, 0, by omega, rfl, rfl, rfl, rfl⟩
  case round =>
    obtain ⟨hwr, j, hj, rfl, rfl, rfl, rfl⟩ := hrel
    subst wr
    by_cases hlt : j < 5
    · obtain ⟨p, hp⟩ : ∃ p : Nat, p = 2 ^ j := ⟨_, rfl⟩
      have hok : Ok p := by rw [hp]; exact pow_ok hlt
      have hp16 : (p : Int) ≤ 16 := by unfold Ok at hok; omega
      obtain ⟨D, hD⟩ : ∃ D : Nat, D = at_ &&& p := ⟨_, rfl⟩
      have hand : bits .and .u8 (at_ : Int) (p : Int) = (D : Int) := by rw [hD]; exact u8_and_nat _ _ hat hok.lt
      have HD : Hid (D = at_ &&& 2 ^ j) := by rw [hD, hp]; rfl
      have Hok : Hid (Ok p) := hok
      have Hp : Hid (p = 2 ^ j) := hp
      have hE := accE_lt at_ T hj
      rw [← hp]
      by_cases h0 : D = 0
      · have t0 : ((D : Int) == 0) = true := by rw [beq_iff_eq]; omega
        have e1 : Hid (accE at_ T (j + 1) = accE at_ T j ∧ accN at_ T (j + 1) = accN at_ T j) := by
          have := HD.out
          simp only [accE, accN]
          rw [if_pos (by omega), if_pos (by omega)]
          exact ⟨rfl, rfl⟩
        generalize accE at_ T j = E at *
        generalize accN at_ T j = N at *
        clear hp hD h0 hok hv
        go_wp2
        go_roundg (5 - (j + 1))
        case measure => omega
        case rel => exact ⟨rfl, j + 1, by omega, rfl, by rw [e1.out.1], by rw [e1.out.2], by congr 1; rw [Hp.out, Nat.pow_succ]; omega⟩
      · have t0 : ((D : Int) == 0) = false := by rw [beq_eq_false_iff_ne]; omega
        have hR := (run_ok hok T).lt
        have e1 : Hid (accE at_ T (j + 1) = accE at_ T j ||| (run p T).1 ∧ accN at_ T (j + 1) = (accN at_ T j || (run p T).2)) := by
          have := HD.out
          simp only [accE, accN]
          rw [if_neg (by omega), if_neg (by omega), hp]
          exact ⟨rfl, rfl⟩
        have hor : bits .or .u8 ((accE at_ T j : Nat) : Int) (((run p T).1 : Nat) : Int) = ((accE at_ T j ||| (run p T).1 : Nat) : Int) := u8_or_nat _ _ hE hR
        generalize accE at_ T j = E at *
        generalize accN at_ T j = N at *
        clear hp hD h0 hok
        go_wp2
        go_loopg [5, 7, 21] n (fun gk s5 s7 s21 wx => wx = w ∧ ∃ k : Nat, k ≤ n ∧ gk = n - k ∧ s21 = .int .i64 (k : Int) ∧ s7 = .int .u8 (((run p (T.take k)).1 : Nat) : Int) ∧ s5 = .bool (N || (run p (T.take k)).2))
        case atStart => exact ⟨rfl, 0, Nat.zero_le _, rfl, rfl, rfl, by simp [run]⟩
        case round =>
          obtain ⟨hwx, k, hk, rfl, rfl, rfl, rfl⟩ := hrel
          subst wr
          by_cases hlk : k < n
          · obtain ⟨b, off, rfl, hc⟩ := hv.cell (by omega)
            have hcz := hc k hlk
            have hsn : run p (T.take (k + 1)) = (stp (run p (T.take k)).1 (T.getD k 0), (run p (T.take k)).2 || nmd (run p (T.take k)).1 (T.getD k 0)) := by
              have hkl : k < T.length := by rw [hv.len]; exact hlk
              rw [List.take_succ_eq_append_getElem hkl, run_snoc, List.getD_eq_getElem?_getD, List.getElem?_eq_getElem hkl]
              rfl
            have hh := run_ok Hok.out (T.take k)
            obtain ⟨M, hM⟩ : ∃ M : Bool, M = (N || (run p (T.take k)).2) := ⟨_, rfl⟩
            have HM : Hid (run p (T.take (k + 1)) = (stp (run p (T.take k)).1 (T.getD k 0), (run p (T.take k)).2 || nmd (run p (T.take k)).1 (T.getD k 0)) ∧ M = (N || (run p (T.take k)).2)) := ⟨hsn, hM⟩
            rw [← hM]
            generalize T.getD k 0 = c at hcz HM
            generalize (run p (T.take k)).2 = rb at HM
            generalize (run p (T.take k)).1 = h at HM hh
            have HH : Hid (Ok h) := hh
            clear hsn hM hc hh
            go_upto_block 3 with fail
            go_cut [5, 7] (fun s5 s7 wx => s5 = .bool (M || nmd h c) ∧ s7 = .int .u8 ((stp h c : Nat) : Int) ∧ wx = w)
            case first =>
              have hh := HH.out
              clear HH HM e1 hor HD Hok Hp hv
              by_cases c35 : c = 35
              · subst c35
                rcases hh with rfl | rfl | rfl | rfl | rfl
                all_goals go_wp2_with fail
                all_goals go_meet
                all_goals exact ⟨by simp [nmd], rfl, rfl⟩
              · by_cases c63 : c = 63
                · subst c63
                  rcases hh with rfl | rfl | rfl | rfl | rfl
                  all_goals go_wp2_with fail
                  all_goals go_meet
                  all_goals exact ⟨by simp [nmd], rfl, rfl⟩
                · by_cases c38 : c = 38
                  · subst c38
                    rcases hh with rfl | rfl | rfl | rfl | rfl
                    all_goals go_wp2_with fail
                    all_goals go_meet
                    all_goals exact ⟨by simp [nmd], rfl, rfl⟩
                  · by_cases c59 : c = 59
                    · subst c59
                      rcases hh with rfl | rfl | rfl | rfl | rfl
                      all_goals go_wp2_with fail
                      all_goals go_meet
                      all_goals exact ⟨by simp [nmd], rfl, rfl⟩
                    · by_cases c61 : c = 61
                      · subst c61
                        rcases hh with rfl | rfl | rfl | rfl | rfl
                        all_goals go_wp2_with fail
                        all_goals go_meet
                        all_goals exact ⟨by simp [nmd], rfl, rfl⟩
                      · have t1 : ((c : Int) == 35) = false := by rw [beq_eq_false_iff_ne]; omega
                        have t2 : ((c : Int) == 63) = false := by rw [beq_eq_false_iff_ne]; omega
                        have t3 : ((c : Int) == 38) = false := by rw [beq_eq_false_iff_ne]; omega
                        have t4 : ((c : Int) == 59) = false := by rw [beq_eq_false_iff_ne]; omega
                        have t5 : ((c : Int) == 61) = false := by rw [beq_eq_false_iff_ne]; omega
                        have HC : Hid (c ≠ 35 ∧ c ≠ 63 ∧ c ≠ 38 ∧ c ≠ 59 ∧ c ≠ 61) := ⟨c35, c63, c38, c59, c61⟩
                        clear c35 c63 c38 c59 c61
                        rcases hh with rfl | rfl | rfl | rfl | rfl
                        all_goals go_wp2_with fail
                        all_goals go_meet
                        all_goals
                          obtain ⟨c35, c63, c38, c59, c61⟩ := HC.out
                          exact ⟨by simp [nmd, c35, c38, c59], by simp [stp, c35, c63, c38, c59, c61], rfl⟩
            case rest =>
              obtain ⟨rfl, rfl, hwc⟩ := hcut
              subst wc
              go_wp2
              go_roundg (n - (k + 1))
              case measure => omega
              case rel =>
                have e := HM.out.1
                exact ⟨rfl, k + 1, by omega, rfl, by go_num, by rw [e], by rw [e, HM.out.2, Bool.or_assoc]⟩
          · have hkn : k = n := by omega
            subst hkn
            have hT : T.take k = T := List.take_of_length_le (by rw [hv.len]; exact Nat.le_refl _)
            rw [hT]
            clear hT hv
            go_wp2
            go_roundg (5 - (j + 1))
            case measure => omega
            case rel => exact ⟨rfl, j + 1, by omega, rfl, by rw [e1.out.1], by rw [e1.out.2], by congr 1; rw [Hp.out, Nat.pow_succ]; omega⟩
    · have h5 : j = 5 := by omega
      subst h5
      go_wp2
      go_ret2
      exact ⟨rfl, rfl⟩

theorem zafter_any {w : World} {a : Option Addr} {n : Nat} {T : List Nat} (hv : View w a n T) (cap at_ : Nat) (hat : at_ < 256) (hn : n ≤ 1048576) :
    Calls Try.prog 13 #[.int .u8 (at_ : Int), .slice a n cap] w (All w at_ T) := by
  go_enter Try.func13, Try.ntmps13
  go_wp2_with fail
  refine (after_any hv cap at_ hat hn).mono ?_
  rintro e w' ⟨rfl, hw'⟩
  subst w'
  go_wp2
  go_ret2
  exact ⟨rfl, rfl⟩

theorem zz12_yes (a : Option Addr) (n cap : Nat) (x : Int) (w : World) (h : n ≤ 1048576) :
    Calls Try.prog 12 #[.int .u8 x, .slice a n cap] w fun e w' => e = .returned (.bool true) ∧ w' = w := by
  go_enter Try.func12, Try.ntmps12
  go_wp2
  go_ret
  exact ⟨rfl, rfl⟩
theorem zz12_no (a : Option Addr) (n cap : Nat) (x : Int) (w : World) (h : 1048576 < n) :
    Calls Try.prog 12 #[.int .u8 x, .slice a n cap] w fun e w' => e = .returned (.bool false) ∧ w' = w := by
  go_enter Try.func12, Try.ntmps12
  go_wp2
  go_ret
  exact ⟨rfl, rfl⟩

theorem own_cap' {w : World} {base : Nat} {ao : Option Addr} {n cap : Nat} {xs : List Value} (h : w.ownsRow base 5 1 (.slice ao n cap) n xs) : n ≤ cap := by
  rcases h.2 with ⟨hv, h0⟩ | ⟨g', cp, cur, hv, _, _, hc, _⟩
  · omega
  · simp only [Value.slice.injEq] at hv
    obtain ⟨_, _, rfl⟩ := hv
    exact hc

set_option maxRecDepth 100000 in
set_option maxHeartbeats 400000 in
theorem law5 {w : World} {a : Option Addr} {L cap : Nat} {T : List Nat} (hv : View w a L T) (ha : a = none → L = 0) (at_ : Nat) (hat : at_ < 256) :
    Calls Try.prog 5 #[.int .u8 (at_ : Int), .slice a L cap] w (Fine w) := by
  by_cases h0 : L ≤ 1048576
  · go_enter Try.func5, Try.ntmps5
    go_wp2_with fail
    refine (zz12_yes _ _ _ _ _ h0).mono ?_
    rintro e w' ⟨rfl, hw'⟩
    subst w'
    go_wp2_with fail
    refine (clone_any a L cap T w hv h0 ha).mono ?_
    rintro e w1 ⟨ao, cp, rfl, hown, hbel⟩
    have hv1 : View w1 ao L T := view_later hown hv.byte (Below.refl w1.heap.size w1) (Nat.le_refl _)
    have hcp := own_cap' hown
    clear hv ha hown
    go_wp2_with fail
    refine (zafter_any hv1 cp at_ hat h0).mono ?_
    rintro e w' ⟨rfl, hw'⟩
    subst w'
    go_wp2_with fail
    refine (model_any hv1 cp at_ hat h0 hcp).mono ?_
    rintro e w' ⟨rfl, hw'⟩
    subst w'
    generalize accE at_ T 5 = E
    generalize accN at_ T 5 = N
    have t1 : ((E : Int) == (E : Int)) = true := by simp
    have t2 : (N == N) = true := by simp
    go_wp2
    go_ret
    exact ⟨rfl, hbel⟩
  · go_enter Try.func5, Try.ntmps5
    go_wp2_with fail
    refine (zz12_no _ _ _ _ _ (by omega)).mono ?_
    rintro e w' ⟨rfl, hw'⟩
    subst w'
    go_wp2
    go_ret
    exact ⟨rfl, Below.refl _ _⟩
end Go.Proofs.Qxb6602870a
