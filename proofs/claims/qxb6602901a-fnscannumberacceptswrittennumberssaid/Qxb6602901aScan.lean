import Derived.Test.Qxb6602901aAuto
import Derived.Deep.DeepCutAuto
import Derived.Deep.CutBlock
namespace Go.Proofs.Qxb6602901a
open Go.RowKit

def Sgn (T : List Nat) (i j : Nat) : Prop := ∃ s, (s = 0 ∨ s = 1) ∧ At T i s j ∧ (s = 0 → j < T.length → T.getD j 0 ≠ 45)
def Whole (T : List Nat) (i j : Nat) : Prop := ∃ s, (s = 2 ∨ s = 3) ∧ At T i s j ∧ (s = 3 → j < T.length → dig (T.getD j 0) = false)
def Fract (T : List Nat) (i j : Nat) : Prop := ∃ s, (s = 2 ∨ s = 3 ∨ s = 5) ∧ At T i s j ∧ (s ≠ 2 → j < T.length → dig (T.getD j 0) = false) ∧ (s ≠ 5 → j < T.length → T.getD j 0 ≠ 46)
def Expo (T : List Nat) (i j : Nat) : Prop := ∃ s, (s = 6 ∨ s = 7) ∧ At T i s j ∧ (s = 6 → j < T.length → T.getD j 0 ≠ 43 ∧ T.getD j 0 ≠ 45)

set_option maxRecDepth 100000 in
set_option maxHeartbeats 2000000 in
theorem scan_any {w : World} {a : Option Addr} {n : Nat} {T : List Nat} (hv : View w a n T) (cap i : Nat) (hi : i ≤ n) (hn : n ≤ 2097152) :
    Calls Try.prog 20 #[.slice a n cap, .int .i64 (i : Int)] w (Scan w T i) := by
  have HL : Hid (T.length = n) := hv.len
  have hcell : ∀ j, j < n → ∃ b off, a = some ⟨b, off, none⟩ ∧ w.cell? ⟨b, off + j, none⟩ = some (.int .u8 ((T.getD j 0 : Nat) : Int)) := fun j hj => by
    obtain ⟨b, off, e, hc⟩ := hv.cell (by omega)
    exact ⟨b, off, e, hc j hj⟩
  have HC : Hid (∀ j, j < n → ∃ b off, a = some ⟨b, off, none⟩ ∧ w.cell? ⟨b, off + j, none⟩ = some (.int .u8 ((T.getD j 0 : Nat) : Int))) := hcell
  have HV : Hid (View w a n T) := hv
  clear hcell hv
  go_enter Try.func20, Try.ntmps20
  go_upto_region 1 with fail
  go_cut [16] (fun s16 wx => wx = w ∧ ∃ b : Bool, s16 = .bool b ∧ (b = true → i < n ∧ T.getD i 0 = 45) ∧ (b = false → i < n → T.getD i 0 ≠ 45))
  case first =>
    by_cases hlt : i < n
    · obtain ⟨b, off, rfl, hcz⟩ := HC.out i hlt
      obtain ⟨c, hc⟩ : ∃ c : Nat, c = T.getD i 0 := ⟨_, rfl⟩
      rw [← hc] at hcz
      have Hc : Hid (c = T.getD i 0) := hc
      have hlt' : (i : Int) < (n : Int) := by omega
      clear hc HC HV
      by_cases h45 : c = 45
      · have t : ((c : Int) == 45) = true := by rw [beq_iff_eq]; omega
        have H45 : Hid (c = 45) := h45
        clear h45
        go_wp2_with fail
        go_meet
        exact ⟨rfl, true, rfl, fun _ => ⟨hlt, by rw [← Hc.out]; exact H45.out⟩, fun h => by cases h⟩
      · have t : ((c : Int) == 45) = false := by rw [beq_eq_false_iff_ne]; omega
        have H45 : Hid (¬ c = 45) := h45
        clear h45
        go_wp2_with fail
        go_meet
        exact ⟨rfl, false, rfl, (fun h => by cases h), fun _ _ => by rw [← Hc.out]; exact H45.out⟩
    · have t : decide ((i : Int) < (n : Int)) = false := by simp; omega
      clear HC HV
      go_wp2_with fail
      go_meet
      exact ⟨rfl, false, rfl, (fun h => by cases h), fun _ h => absurd h hlt⟩
  case rest =>
  obtain ⟨hwc, b1, rfl, hb1, hb1'⟩ := hcut
  subst wc
  have Hb1 : Hid (b1 = true → i < n ∧ T.getD i 0 = 45) := hb1
  have Hb1' : Hid (b1 = false → i < n → T.getD i 0 ≠ 45) := hb1'
  clear hb1 hb1'
  go_upto_if 16 with fail
  go_cut [1] (fun s1 wx => wx = w ∧ ∃ j : Nat, s1 = .int .i64 (j : Int) ∧ j ≤ n ∧ Sgn T i j)
  case first =>
    cases b1 with
    | true =>
      obtain ⟨h1, h2⟩ := Hb1.out rfl
      have hAt : At T i 1 (i + 1) := (At.start (by rw [HL.out]; exact hi)).step (by rw [HL.out]; exact h1) (by rw [h2]; rfl) (by decide)
      have HA : Hid (At T i 1 (i + 1)) := hAt
      clear h2 hAt Hb1 Hb1' HC HV
      go_wp2_with fail
      go_meet
      exact ⟨rfl, i + 1, by go_num, h1, 1, .inr rfl, HA.out, fun h => by cases h⟩
    | false =>
      have h2 := Hb1'.out rfl
      have H2 : Hid (i < n → T.getD i 0 ≠ 45) := h2
      clear h2 Hb1 Hb1' HC HV
      go_wp2_with fail
      go_meet
      exact ⟨rfl, i, rfl, hi, 0, .inl rfl, At.start (by rw [HL.out]; exact hi), fun _ h => H2.out (by rw [HL.out] at h; exact h)⟩
  case rest =>
  obtain ⟨hwc, j, rfl, hj, hS⟩ := hcut
  subst wc
  have HS : Hid (Sgn T i j) := hS
  clear hS Hb1 Hb1'
  go_upto_block 0 with fail
  go_cut [1] (fun s1 wx => wx = w ∧ ∃ j : Nat, s1 = .int .i64 (j : Int) ∧ j ≤ n ∧ Whole T i j)
  case first =>
    obtain ⟨s, hs, hAt, hno⟩ := HS.out
    have hacc : acc s = false := by rcases hs with rfl | rfl <;> rfl
    have hge := hAt.ge
    have Hacc : Hid (acc s = false) := hacc
    clear hacc HS
    by_cases hlt : j < n
    · obtain ⟨b, off, rfl, hcz⟩ := HC.out j hlt
      obtain ⟨c, hc⟩ : ∃ c : Nat, c = T.getD j 0 := ⟨_, rfl⟩
      rw [← hc] at hcz
      have Hc : Hid (c = T.getD j 0) := hc
      have hno' : s = 0 → c ≠ 45 := fun h => by rw [hc]; exact hno h (by rw [HL.out]; exact hlt)
      have hstep : ∀ s', nst s c = s' → s' ≠ 9 → At T i s' (j + 1) := fun s' h1 h2 => hAt.step (by rw [HL.out]; exact hlt) (by rw [← hc]; exact h1) h2
      have hdone : nst s c = 9 → aut 0 (T.drop i) = (j - i, s) := fun h => hAt.done (fun _ => by rw [← hc]; exact h)
      have hlt' : (j : Int) < (n : Int) := by omega
      have tn : ((j : Int) == (n : Int)) = false := by rw [beq_eq_false_iff_ne]; omega
      by_cases h48 : c = 48
      · have t : ((c : Int) == 48) = true := by rw [beq_iff_eq]; omega
        have HA : Hid (At T i 2 (j + 1)) := hstep 2 (by rw [h48]; rcases hs with rfl | rfl <;> rfl) (by decide)
        clear h48 hstep hdone hno' hno hAt hs hc HC HV
        go_wp2_with fail
        go_meet
        exact ⟨rfl, j + 1, by go_num, hlt, 2, .inl rfl, HA.out, fun h => by cases h⟩
      · have t : ((c : Int) == 48) = false := by rw [beq_eq_false_iff_ne]; omega
        cases hd : dig c with
        | true =>
          have Hd : Hid (dig c = true) := hd
          have HA : Hid (At T i 3 (j + 1)) := hstep 3 (by
            have h45 : c ≠ 45 := by intro e; rw [e] at hd; cases hd
            rcases hs with rfl | rfl <;> simp [nst, h48, h45, hd]) (by decide)
          clear h48 hstep hdone hno' hno hAt hs hc HC hd
          go_wp2_with fail
          refine (dig24 c _ Hd.out w).mono ?_
          rintro e w' ⟨rfl, hw'⟩
          subst w'
          go_wp2_with fail
          refine (skip_any HV.out cap (j + 1) hlt hn).mono ?_
          rintro e w' ⟨q, rfl, hw', hq1, hq2, hq3, hq4⟩
          subst w'
          obtain ⟨k, rfl⟩ : ∃ k, q = j + 1 + k := ⟨q - (j + 1), by omega⟩
          have HA2 : Hid (At T i 3 (j + 1 + k)) := HA.out.over (.inl rfl) k hq2 hq3
          have H4 : Hid (j + 1 + k < T.length → dig (T.getD (j + 1 + k) 0) = false) := hq4
          have hqn : j + 1 + k ≤ n := by rw [HL.out] at hq2; exact hq2
          clear hq3 hq4 HA hq2
          go_wp2_with fail
          go_meet
          exact ⟨rfl, j + 1 + k, rfl, hqn, 3, .inr rfl, HA2.out, fun _ => H4.out⟩
        | false =>
          have Hd : Hid (dig c = false) := hd
          have HD : Hid (aut 0 (T.drop i) = (j - i, s)) := hdone (by
            rcases hs with rfl | rfl
            · simp [nst, h48, hno' rfl, hd]
            · simp [nst, h48, hd])
          clear h48 hstep hdone hno' hno hAt hs hc HC HV hd
          go_wp2_with fail
          refine (dig24 c _ Hd.out w).mono ?_
          rintro e w' ⟨rfl, hw'⟩
          subst w'
          go_wp2_with fail
          go_ret2
          exact scan_mk hge HD.out Hacc.out
    · have tn : ((j : Int) == (n : Int)) = true := by rw [beq_iff_eq]; omega
      have HD : Hid (aut 0 (T.drop i) = (j - i, s)) := hAt.done (fun h => by rw [HL.out] at h; omega)
      clear hno hAt hs HC HV
      go_wp2_with fail
      go_ret2
      exact scan_mk hge HD.out Hacc.out
  case rest =>
  clear HS
  obtain ⟨hwc, j, rfl, hj, hS⟩ := hcut
  subst wc
  have HS : Hid (Whole T i j) := hS
  clear hS
  go_upto_region 10 with fail
  go_cut [54] (fun sx wx => wx = w ∧ ∃ b : Bool, sx = .bool b ∧ (b = true → j < n ∧ (T.getD j 0 = 46)) ∧ (b = false → j < n → (T.getD j 0 ≠ 46)))
  case first =>
    by_cases hlt : j < n
    · obtain ⟨b, off, rfl, hcz⟩ := HC.out j hlt
      obtain ⟨c, hc⟩ : ∃ c : Nat, c = T.getD j 0 := ⟨_, rfl⟩
      rw [← hc] at hcz
      have Hc := (show Hid _ from hc)
      have hlt' : (j : Int) < (n : Int) := by omega
      clear hc HC HV HS
      by_cases h46 : c = 46
      · have t46 : ((c : Int) == 46) = true := by rw [beq_iff_eq]; omega
        have H46 : Hid (c = 46) := h46
        clear h46 
        go_wp2_with fail
        go_meet
        exact ⟨rfl, true, rfl, fun _ => ⟨hlt, by rw [← Hc.out]; exact H46.out⟩, fun h => by cases h⟩
      · have t46 : ((c : Int) == 46) = false := by rw [beq_eq_false_iff_ne]; omega
        have H46 : Hid (¬ c = 46) := h46
        clear h46
        go_wp2_with fail
        go_meet
        exact ⟨rfl, false, rfl, (fun h => by cases h), fun _ _ => by rw [← Hc.out]; exact H46.out⟩
    · have t : decide ((j : Int) < (n : Int)) = false := by simp; omega
      clear HC HV HS
      go_wp2_with fail
      go_meet
      exact ⟨rfl, false, rfl, (fun h => by cases h), fun _ h => absurd h hlt⟩
  case rest =>
  obtain ⟨hwc, b3, rfl, hb1, hb1'⟩ := hcut
  subst wc
  have Hb1 : Hid (b3 = true → j < n ∧ (T.getD j 0 = 46)) := hb1
  have Hb1' : Hid (b3 = false → j < n → (T.getD j 0 ≠ 46)) := hb1'
  clear hb1 hb1'
  go_upto_if 54 with fail
  go_cut [1] (fun s1 wx => wx = w ∧ ∃ j : Nat, s1 = .int .i64 (j : Int) ∧ j ≤ n ∧ Fract T i j)
  case first =>
    obtain ⟨s, hs, hAt, hnd⟩ := HS.out
    clear HS
    cases b3 with
    | false =>
      have H46 : Hid (j < n → T.getD j 0 ≠ 46) := Hb1'.out rfl
      have HA : Hid (At T i s j) := hAt
      have HN : Hid (s = 3 → j < T.length → dig (T.getD j 0) = false) := hnd
      have Hs : Hid (s = 2 ∨ s = 3) := hs
      clear Hb1 Hb1' hAt hnd hs HC HV
      go_wp2_with fail
      go_meet
      refine ⟨rfl, j, rfl, hj, s, by have := Hs.out; omega, HA.out, fun h => HN.out (by have := Hs.out; omega), fun _ h => H46.out (by rw [HL.out] at h; exact h)⟩
    | true =>
      obtain ⟨h1, h46⟩ := Hb1.out rfl
      have hd46 : dig 46 = false := by decide
      have hA4 : At T i 4 (j + 1) := hAt.step (by rw [HL.out]; exact h1) (by rw [h46]; rcases hs with rfl | rfl <;> simp [nst, hd46]) (by decide)
      have HA4 : Hid (At T i 4 (j + 1)) := hA4
      have hge := hA4.ge
      clear Hb1 Hb1' hAt hnd hs h46 hA4 hd46
      by_cases hlt : j + 1 < n
      · obtain ⟨b, off, rfl, hcz⟩ := HC.out (j + 1) hlt
        obtain ⟨c, hc⟩ : ∃ c : Nat, c = T.getD (j + 1) 0 := ⟨_, rfl⟩
        rw [← hc] at hcz
        have hcz2 : w.cell? ⟨b, off + j + 1, none⟩ = some (.int .u8 (c : Int)) := by rw [Nat.add_assoc]; exact hcz
        have tn : ((j : Int) + 1 == (n : Int)) = false := by rw [beq_eq_false_iff_ne]; omega
        have hlt' : (j : Int) + 1 < (n : Int) := by omega
        cases hd : dig c with
        | true =>
          have Hd : Hid (dig c = true) := hd
          have HA5 : Hid (At T i 5 (j + 1 + 1)) := HA4.out.step (by rw [HL.out]; exact hlt) (by rw [← hc]; simp [nst, hd]) (by decide)
          have Hdd : Hid (dig (T.getD (j + 1) 0) = true) := by rw [← hc]; exact hd
          clear hc HC HA4 hd
          go_wp2_with fail
          refine (dig24 c _ Hd.out w).mono ?_
          rintro e w' ⟨rfl, hw'⟩
          subst w'
          go_wp2_with fail
          refine (skip_any HV.out cap (j + 1) (by omega) hn).mono ?_
          rintro e w' ⟨q, rfl, hw', hq1, hq2, hq3, hq4⟩
          subst w'
          have hne : q ≠ j + 1 := by
            intro e
            have := hq4 (by rw [HL.out, e]; exact hlt)
            rw [e, Hdd.out] at this
            cases this
          obtain ⟨k, rfl⟩ : ∃ k, q = j + 1 + 1 + k := ⟨q - (j + 1 + 1), by omega⟩
          have HA2 : Hid (At T i 5 (j + 1 + 1 + k)) := HA5.out.over (.inr (.inl rfl)) k hq2 (fun x h1 h2 => hq3 x (by omega) h2)
          have H4 : Hid (j + 1 + 1 + k < T.length → dig (T.getD (j + 1 + 1 + k) 0) = false) := hq4
          have hqn : j + 1 + 1 + k ≤ n := by rw [HL.out] at hq2; exact hq2
          clear hq3 hq4 HA5 hq2 hne Hdd
          go_wp2_with fail
          go_meet
          exact ⟨rfl, j + 1 + 1 + k, rfl, hqn, 5, by omega, HA2.out, fun _ => H4.out, fun h => absurd rfl h⟩
        | false =>
          have Hd : Hid (dig c = false) := hd
          have HD : Hid (aut 0 (T.drop i) = (j + 1 - i, 4)) := HA4.out.done (fun _ => by rw [← hc]; simp [nst, hd])
          clear hc HC HA4 hd HV
          go_wp2_with fail
          refine (dig24 c _ Hd.out w).mono ?_
          rintro e w' ⟨rfl, hw'⟩
          subst w'
          go_wp2_with fail
          go_ret2
          exact scan_mk hge HD.out rfl
      · have tn : ((j : Int) + 1 == (n : Int)) = true := by rw [beq_iff_eq]; omega
        have HD : Hid (aut 0 (T.drop i) = (j + 1 - i, 4)) := HA4.out.done (fun h => by rw [HL.out] at h; omega)
        clear HA4 HC HV
        go_wp2_with fail
        go_ret2
        exact scan_mk hge HD.out rfl
  case rest =>
  clear HS Hb1 Hb1' b3
  obtain ⟨hwc, j, rfl, hj, hS⟩ := hcut
  subst wc
  have HS : Hid (Fract T i j) := hS
  clear hS
  go_upto_region 15 with fail
  go_cut [90] (fun sx wx => wx = w ∧ ∃ b : Bool, sx = .bool b ∧ (b = true → j < n ∧ (T.getD j 0 = 101 ∨ T.getD j 0 = 69)) ∧ (b = false → j < n → (T.getD j 0 ≠ 101 ∧ T.getD j 0 ≠ 69)))
  case first =>
    by_cases hlt : j < n
    · obtain ⟨b, off, rfl, hcz⟩ := HC.out j hlt
      obtain ⟨c, hc⟩ : ∃ c : Nat, c = T.getD j 0 := ⟨_, rfl⟩
      rw [← hc] at hcz
      have Hc := (show Hid _ from hc)
      have hlt' : (j : Int) < (n : Int) := by omega
      clear hc HC HV HS
      by_cases h101 : c = 101
      · have t101 : ((c : Int) == 101) = true := by rw [beq_iff_eq]; omega
        have H101 : Hid (c = 101) := h101
        clear h101 
        go_wp2_with fail
        go_meet
        exact ⟨rfl, true, rfl, fun _ => ⟨hlt, by rw [← Hc.out]; exact .inl H101.out⟩, fun h => by cases h⟩
      · have t101 : ((c : Int) == 101) = false := by rw [beq_eq_false_iff_ne]; omega
        by_cases h69 : c = 69
        · have t69 : ((c : Int) == 69) = true := by rw [beq_iff_eq]; omega
          have H69 : Hid (c = 69) := h69
          clear h69 h101
          go_wp2_with fail
          go_meet
          exact ⟨rfl, true, rfl, fun _ => ⟨hlt, by rw [← Hc.out]; exact .inr H69.out⟩, fun h => by cases h⟩
        · have t69 : ((c : Int) == 69) = false := by rw [beq_eq_false_iff_ne]; omega
          have H101 : Hid (¬ c = 101) := h101
          have H69 : Hid (¬ c = 69) := h69
          clear h101 h69
          go_wp2_with fail
          go_meet
          exact ⟨rfl, false, rfl, (fun h => by cases h), fun _ _ => by rw [← Hc.out]; exact ⟨H101.out, H69.out⟩⟩
    · have t : decide ((j : Int) < (n : Int)) = false := by simp; omega
      clear HC HV HS
      go_wp2_with fail
      go_meet
      exact ⟨rfl, false, rfl, (fun h => by cases h), fun _ h => absurd h hlt⟩
  case rest =>
  obtain ⟨hwc, b4, rfl, hb1, hb1'⟩ := hcut
  subst wc
  have Hb1 : Hid (b4 = true → j < n ∧ (T.getD j 0 = 101 ∨ T.getD j 0 = 69)) := hb1
  have Hb1' : Hid (b4 = false → j < n → (T.getD j 0 ≠ 101 ∧ T.getD j 0 ≠ 69)) := hb1'
  clear hb1 hb1'
  cases b4 with
  | false =>
    obtain ⟨s, hs, hAt, hnd, hn46⟩ := HS.out
    have hne := Hb1'.out rfl
    have hge := hAt.ge
    have HD : Hid (aut 0 (T.drop i) = (j - i, s)) := hAt.done (fun h => by
      have hne' := hne (by rw [HL.out] at h; exact h)
      generalize T.getD j 0 = c at hnd hn46 hne'
      rcases hs with rfl | rfl | rfl
      · have := hn46 (by decide) h
        simp [nst, this, hne'.1, hne'.2]
      · have h1 := hn46 (by decide) h
        have h2 := hnd (by decide) h
        simp [nst, h1, h2, hne'.1, hne'.2]
      · have h2 := hnd (by decide) h
        simp [nst, h2, hne'.1, hne'.2])
    have Hacc : Hid (acc s = true) := by rcases hs with rfl | rfl | rfl <;> rfl
    clear HS hs hAt hnd hn46 hne Hb1 Hb1' HC HV
    go_wp2_with fail
    go_ret2
    exact scan_mk hge HD.out Hacc.out
  | true =>
  obtain ⟨h1, hee⟩ := Hb1.out rfl
  obtain ⟨s, hs, hAt, hnd, hn46⟩ := HS.out
  have hA6 : At T i 6 (j + 1) := hAt.step (by rw [HL.out]; exact h1) (by
    have h46 : T.getD j 0 ≠ 46 := by omega
    have hd : dig (T.getD j 0) = false := by rcases hee with e | e <;> rw [e] <;> decide
    generalize T.getD j 0 = c at hee h46 hd
    rcases hs with rfl | rfl | rfl <;> simp [nst, hee, h46, hd]) (by decide)
  have HA6 : Hid (At T i 6 (j + 1)) := hA6
  clear HS hs hAt hnd hn46 hee Hb1 Hb1' hA6
  go_upto_region 16 with fail
  go_cut [1] (fun s1 wx => wx = w ∧ ∃ m : Nat, s1 = .int .i64 (m : Int) ∧ m ≤ n ∧ At T i 6 m)
  case first =>
    clear HC HV
    go_wp2_with fail
    go_meet
    exact ⟨rfl, j + 1, by go_num, h1, HA6.out⟩
  case rest =>
  obtain ⟨hwc, m, rfl, hm, hS⟩ := hcut
  subst wc
  have HS : Hid (At T i 6 m) := hS
  clear hS HA6
  go_upto_region 17 with fail
  go_cut [110] (fun sx wx => wx = w ∧ ∃ b : Bool, sx = .bool b ∧ (b = true → m < n ∧ (T.getD m 0 = 43 ∨ T.getD m 0 = 45)) ∧ (b = false → m < n → (T.getD m 0 ≠ 43 ∧ T.getD m 0 ≠ 45)))
  case first =>
    by_cases hlt : m < n
    · obtain ⟨b, off, rfl, hcz⟩ := HC.out m hlt
      obtain ⟨c, hc⟩ : ∃ c : Nat, c = T.getD m 0 := ⟨_, rfl⟩
      rw [← hc] at hcz
      have Hc := (show Hid _ from hc)
      have hlt' : (m : Int) < (n : Int) := by omega
      clear hc HC HV HS
      by_cases h43 : c = 43
      · have t43 : ((c : Int) == 43) = true := by rw [beq_iff_eq]; omega
        have H43 : Hid (c = 43) := h43
        clear h43 
        go_wp2_with fail
        go_meet
        exact ⟨rfl, true, rfl, fun _ => ⟨hlt, by rw [← Hc.out]; exact .inl H43.out⟩, fun h => by cases h⟩
      · have t43 : ((c : Int) == 43) = false := by rw [beq_eq_false_iff_ne]; omega
        by_cases h45 : c = 45
        · have t45 : ((c : Int) == 45) = true := by rw [beq_iff_eq]; omega
          have H45 : Hid (c = 45) := h45
          clear h45 h43
          go_wp2_with fail
          go_meet
          exact ⟨rfl, true, rfl, fun _ => ⟨hlt, by rw [← Hc.out]; exact .inr H45.out⟩, fun h => by cases h⟩
        · have t45 : ((c : Int) == 45) = false := by rw [beq_eq_false_iff_ne]; omega
          have H43 : Hid (¬ c = 43) := h43
          have H45 : Hid (¬ c = 45) := h45
          clear h43 h45
          go_wp2_with fail
          go_meet
          exact ⟨rfl, false, rfl, (fun h => by cases h), fun _ _ => by rw [← Hc.out]; exact ⟨H43.out, H45.out⟩⟩
    · have t : decide ((m : Int) < (n : Int)) = false := by simp; omega
      clear HC HV HS
      go_wp2_with fail
      go_meet
      exact ⟨rfl, false, rfl, (fun h => by cases h), fun _ h => absurd h hlt⟩
  case rest =>
  obtain ⟨hwc, b5, rfl, hb1, hb1'⟩ := hcut
  subst wc
  have Hb1 : Hid (b5 = true → m < n ∧ (T.getD m 0 = 43 ∨ T.getD m 0 = 45)) := hb1
  have Hb1' : Hid (b5 = false → m < n → (T.getD m 0 ≠ 43 ∧ T.getD m 0 ≠ 45)) := hb1'
  clear hb1 hb1'
  go_upto_if 110 with fail
  go_cut [1] (fun s1 wx => wx = w ∧ ∃ j : Nat, s1 = .int .i64 (j : Int) ∧ j ≤ n ∧ Expo T i j)
  case first =>
    cases b5 with
    | false =>
      have H1 : Hid (m < n → T.getD m 0 ≠ 43 ∧ T.getD m 0 ≠ 45) := Hb1'.out rfl
      clear Hb1 Hb1' HC HV
      go_wp2_with fail
      go_meet
      exact ⟨rfl, m, rfl, hm, 6, .inl rfl, HS.out, fun _ h => H1.out (by rw [HL.out] at h; exact h)⟩
    | true =>
      obtain ⟨h2, hpm⟩ := Hb1.out rfl
      have HA7 : Hid (At T i 7 (m + 1)) := HS.out.step (by rw [HL.out]; exact h2) (by
        generalize T.getD m 0 = c at hpm
        simp [nst, hpm]) (by decide)
      clear Hb1 Hb1' HC HV hpm HS
      go_wp2_with fail
      go_meet
      exact ⟨rfl, m + 1, by go_num, h2, 7, .inr rfl, HA7.out, fun h => by cases h⟩
  case rest =>
  clear HS Hb1 Hb1' b5 hm m
  obtain ⟨hwc, m, rfl, hm, hS⟩ := hcut
  subst wc
  obtain ⟨s, hs, hAt, hpm⟩ := hS
  have hge := hAt.ge
  have Hacc : Hid (acc s = false) := by rcases hs with rfl | rfl <;> rfl
  by_cases hlt : m < n
  · obtain ⟨b, off, rfl, hcz⟩ := HC.out m hlt
    obtain ⟨c, hc⟩ : ∃ c : Nat, c = T.getD m 0 := ⟨_, rfl⟩
    rw [← hc] at hcz
    have tn : ((m : Int) == (n : Int)) = false := by rw [beq_eq_false_iff_ne]; omega
    have hlt' : (m : Int) < (n : Int) := by omega
    have hpm' : s = 6 → c ≠ 43 ∧ c ≠ 45 := fun h => by rw [hc]; exact hpm h (by rw [HL.out]; exact hlt)
    cases hd : dig c with
    | true =>
      have Hd : Hid (dig c = true) := hd
      have hcn : ¬ (c = 43 ∨ c = 45) := by
        rintro (e | e) <;> rw [e] at hd <;> cases hd
      have HA8 : Hid (At T i 8 (m + 1)) := hAt.step (by rw [HL.out]; exact hlt) (by
        rw [← hc]
        rcases hs with rfl | rfl <;> simp [nst, hd, hcn]) (by decide)
      have Hdd : Hid (dig (T.getD m 0) = true) := by rw [← hc]; exact hd
      clear hc HC hd hcn hpm hpm' hAt hs
      go_wp2_with fail
      refine (dig24 c _ Hd.out w).mono ?_
      rintro e w' ⟨rfl, hw'⟩
      subst w'
      go_wp2_with fail
      refine (skip_any HV.out cap m (by omega) hn).mono ?_
      rintro e w' ⟨q, rfl, hw', hq1, hq2, hq3, hq4⟩
      subst w'
      have hne : q ≠ m := by
        intro e
        have := hq4 (by rw [HL.out, e]; exact hlt)
        rw [e, Hdd.out] at this
        cases this
      obtain ⟨k, rfl⟩ : ∃ k, q = m + 1 + k := ⟨q - (m + 1), by omega⟩
      have hA9 : At T i 8 (m + 1 + k) := HA8.out.over (.inr (.inr rfl)) k hq2 (fun x h1 h2 => hq3 x (by omega) h2)
      have HD : Hid (aut 0 (T.drop i) = (m + 1 + k - i, 8)) := hA9.done (fun h => by
        have := hq4 h
        generalize T.getD (m + 1 + k) 0 = c at this
        simp [nst, this])
      clear hq3 hq4 HA8 hq2 hne Hdd hA9
      go_wp2_with fail
      go_ret2
      exact scan_mk (by omega) HD.out rfl
    | false =>
      have Hd : Hid (dig c = false) := hd
      have HD : Hid (aut 0 (T.drop i) = (m - i, s)) := hAt.done (fun _ => by
        rw [← hc]
        rcases hs with rfl | rfl
        · have := hpm' rfl
          simp [nst, hd, this.1, this.2]
        · simp [nst, hd])
      clear hc HC hd hpm hpm' hAt hs HV
      go_wp2_with fail
      refine (dig24 c _ Hd.out w).mono ?_
      rintro e w' ⟨rfl, hw'⟩
      subst w'
      go_wp2_with fail
      go_ret2
      exact scan_mk hge HD.out Hacc.out
  · have tn : ((m : Int) == (n : Int)) = true := by rw [beq_iff_eq]; omega
    have HD : Hid (aut 0 (T.drop i) = (m - i, s)) := hAt.done (fun h => by rw [HL.out] at h; omega)
    clear HC HV hpm hAt hs
    go_wp2_with fail
    go_ret2
    exact scan_mk hge HD.out Hacc.out
end Go.Proofs.Qxb6602901a
