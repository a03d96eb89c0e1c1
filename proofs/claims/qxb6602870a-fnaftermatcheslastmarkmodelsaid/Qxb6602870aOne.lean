import Derived.Test.Qxb6602870aQuery
import Derived.Deep.DeepCutAuto
namespace Go.Proofs.Qxb6602870a
open Go.RowKit

def One (w : World) (s : Nat) (T : List Nat) (e : Ending) (w' : World) : Prop := e = .returned (.tuple #[.int .u8 (((run s T).1 : Nat) : Int), .bool (run s T).2]) ∧ w' = w

theorem one_mk {w : World} {s : Nat} {T : List Nat} {r : Nat} {b : Bool} (h1 : (run s T).1 = r) (h2 : (run s T).2 = b) : One w s T (.returned (.tuple #[.int .u8 (r : Int), .bool b])) w := by
  subst h1; subst h2; exact ⟨rfl, rfl⟩

theorem mem_of_getD {T : List Nat} {k c : Nat} (hk : k < T.length) (he : T.getD k 0 = c) : c ∈ T := by
  rw [← he, List.getD_eq_getElem?_getD, List.getElem?_eq_getElem hk]; exact List.getElem_mem hk

theorem one_8 {w : World} {a : Option Addr} {n : Nat} {T : List Nat} (cap : Nat) : Calls Try.prog 19 #[.int .u8 8, .slice a n cap] w (One w 8 T) := by
  go_enter Try.func19, Try.ntmps19
  go_wp2
  go_ret2
  exact one_mk (r := 8) (by rw [run8]) (by rw [run8])

set_option maxRecDepth 100000 in
set_option maxHeartbeats 400000 in
theorem one_2 {w : World} {a : Option Addr} {n : Nat} {T : List Nat} (hv : View w a n T) (cap : Nat) (hn : n ≤ 1048576) (hcap : n ≤ cap) : Calls Try.prog 19 #[.int .u8 2, .slice a n cap] w (One w 2 T) := by
  have H2 : Hid ((run 2 T).2 = false) := not_named (by unfold Ok; omega) (by omega) T
  go_enter Try.func19, Try.ntmps19
  go_wp2_with fail
  refine (first_any hv cap 35 hn).mono ?_
  rintro e w' ⟨r, rfl, hw', hr⟩
  subst w'
  rcases hr with ⟨rfl, hno⟩ | ⟨k, rfl, hk, he, _⟩
  · have Hno : Hid (¬ 35 ∈ T) := hno
    clear hno
    go_wp2_with fail
    refine (query_any hv cap 2 (.inl rfl) hn hcap (fun x hx e => Hno.out (by rw [← e]; exact hx))).mono ?_
    rintro e w' ⟨rfl, hw'⟩
    subst w'
    go_wp2
    go_ret2
    exact one_mk rfl H2.out
  · have hm := mem_of_getD hk he
    clear hk he hv
    go_wp2
    go_ret2
    exact one_mk (r := 8) (run_hash T hm) H2.out

set_option maxRecDepth 100000 in
set_option maxHeartbeats 400000 in
theorem one_4 {w : World} {a : Option Addr} {n : Nat} {T : List Nat} (hv : View w a n T) (cap : Nat) (hn : n ≤ 1048576) (hcap : n ≤ cap) : Calls Try.prog 19 #[.int .u8 4, .slice a n cap] w (One w 4 T) := by
  have H2 : Hid ((run 4 T).2 = false) := not_named (by unfold Ok; omega) (by omega) T
  go_enter Try.func19, Try.ntmps19
  go_wp2_with fail
  refine (first_any hv cap 35 hn).mono ?_
  rintro e w' ⟨r, rfl, hw', hr⟩
  subst w'
  rcases hr with ⟨rfl, hno⟩ | ⟨k, rfl, hk, he, _⟩
  · have Hno : Hid (¬ 35 ∈ T) := hno
    clear hno
    go_wp2_with fail
    refine (query_any hv cap 4 (.inr rfl) hn hcap (fun x hx e => Hno.out (by rw [← e]; exact hx))).mono ?_
    rintro e w' ⟨rfl, hw'⟩
    subst w'
    go_wp2
    go_ret2
    exact one_mk rfl H2.out
  · have hm := mem_of_getD hk he
    clear hk he hv
    go_wp2
    go_ret2
    exact one_mk (r := 8) (run_hash T hm) H2.out

set_option maxRecDepth 100000 in
set_option maxHeartbeats 400000 in
theorem one_1 {w : World} {a : Option Addr} {n : Nat} {T : List Nat} (hv : View w a n T) (cap : Nat) (hn : n ≤ 1048576) (hcap : n ≤ cap) : Calls Try.prog 19 #[.int .u8 1, .slice a n cap] w (One w 1 T) := by
  have H2 : Hid ((run 1 T).2 = false) := not_named (by unfold Ok; omega) (by omega) T
  go_enter Try.func19, Try.ntmps19
  go_wp2_with fail
  refine (first_any hv cap 35 hn).mono ?_
  rintro e w' ⟨r, rfl, hw', hr⟩
  subst w'
  rcases hr with ⟨rfl, hno⟩ | ⟨k, rfl, hk, he, _⟩
  · have Hno : Hid (¬ 35 ∈ T) := hno
    clear hno
    go_wp2_with fail
    refine (first_any hv cap 63 hn).mono ?_
    rintro e w' ⟨r, rfl, hw', hr⟩
    subst w'
    rcases hr with ⟨rfl, hq⟩ | ⟨k, rfl, hk, he, hb⟩
    · have H1 : Hid ((run 1 T).1 = 1) := run_path T (fun x hx => ⟨fun e => Hno.out (by rw [← e]; exact hx), fun e => hq (by rw [← e]; exact hx)⟩)
      clear hq hv
      go_wp2
      go_ret2
      exact one_mk H1.out H2.out
    · have hl := hv.len
      obtain ⟨b, off, rfl, hc⟩ := hv.cell (by omega)
      have hk1 : (k : Int) + 1 ≤ (n : Int) := by omega
      have hk2 : (k : Int) + 1 ≤ (cap : Int) := by omega
      have hn' : (n : Int) ≤ (cap : Int) := by omega
      obtain ⟨A, hA, hVA⟩ : ∃ A, (if cap = k + 1 then some (⟨b, off, none⟩ : Addr) else some ⟨b, off + (k + 1), none⟩) = A ∧ View w A (n - (k + 1)) (T.drop (k + 1)) := ⟨_, rfl, view_drop hv (by omega) hcap⟩
      have H1 : Hid ((run 1 T).1 = (run 2 (T.drop (k + 1))).1) := by
        have e : T = T.take k ++ 63 :: T.drop (k + 1) := by
          rw [← he, List.getD_eq_getElem?_getD, List.getElem?_eq_getElem hk]
          simp
        show _ = _
        conv => lhs; rw [e]
        refine run_path_q _ _ (fun x hx => ⟨fun e => Hno.out (by rw [← e]; exact List.mem_of_mem_take hx), ?_⟩)
        obtain ⟨j, hj, ej⟩ := mem_getD hx
        rw [List.length_take] at hj
        have hjk : j < k := by omega
        rw [List.getD_eq_getElem?_getD, List.getElem?_take, if_pos hjk, ← List.getD_eq_getElem?_getD] at ej
        rw [← ej]
        exact hb j hjk
      have Hd : Hid (∀ x ∈ T.drop (k + 1), x ≠ 35) := fun x hx e => Hno.out (by rw [← e]; exact List.mem_of_mem_drop hx)
      clear hv hc hb he hl hk
      go_wp2_with fail
      refine (query_any hVA _ 2 (.inl rfl) (by omega) (by omega) Hd.out).mono ?_
      rintro e w' ⟨rfl, hw'⟩
      subst w'
      go_wp2
      go_ret2
      exact one_mk H1.out H2.out
  · have hm := mem_of_getD hk he
    clear hk he hv
    go_wp2
    go_ret2
    exact one_mk (r := 8) (run_hash T hm) H2.out
set_option maxRecDepth 100000 in
set_option maxHeartbeats 400000 in
theorem one_16_nil {w : World} {a : Option Addr} {T : List Nat} (hv : View w a 0 T) (cap : Nat) : Calls Try.prog 19 #[.int .u8 16, .slice a 0 cap] w (One w 16 T) := by
  have hT : T = [] := List.eq_nil_of_length_eq_zero hv.len
  subst hT
  go_enter Try.func19, Try.ntmps19
  go_wp2_with fail
  refine (first_any hv cap 35 (by omega)).mono ?_
  rintro e w' ⟨r, rfl, hw', hr⟩
  subst w'
  rcases hr with ⟨rfl, hno⟩ | ⟨k, rfl, hk, he, _⟩
  · clear hno hv
    go_wp2
    go_ret2
    exact one_mk (r := 16) rfl rfl
  · simp at hk

set_option maxRecDepth 100000 in
set_option maxHeartbeats 400000 in
theorem one_16 {w : World} {a : Option Addr} {n : Nat} {T : List Nat} (hv : View w a n T) (cap : Nat) (hn0 : n ≠ 0) (hn : n ≤ 1048576) (hcap : n ≤ cap) : Calls Try.prog 19 #[.int .u8 16, .slice a n cap] w (One w 16 T) := by
  obtain ⟨b, off, rfl, hc⟩ := hv.cell hn0
  have hl := hv.len
  obtain ⟨c, V, rfl⟩ : ∃ c V, T = c :: V := by
    cases T with
    | nil => exact absurd hl.symm hn0
    | cons c V => exact ⟨c, V, rfl⟩
  have hc0 : w.cell? ⟨b, off, none⟩ = some (.int .u8 (c : Int)) := by have := hc 0 (by omega); simpa using this
  have hpos : (0 : Int) < (n : Int) := by omega
  have hne : ((n : Int) == 0) = false := by rw [beq_eq_false_iff_ne]; omega
  have h1 : (1 : Int) ≤ (n : Int) := by omega
  have h2 : (1 : Int) ≤ (cap : Int) := by omega
  have hn' : (n : Int) ≤ (cap : Int) := by omega
  obtain ⟨A, hA, hVA⟩ : ∃ A, (if cap = 1 then some (⟨b, off, none⟩ : Addr) else some ⟨b, off + 1, none⟩) = A ∧ View w A (n - 1) V := ⟨_, rfl, view_drop hv (by omega) hcap⟩
  have H2 : Hid ((run 16 (c :: V)).2 = nmd 16 c) := named16 (c :: V)
  clear hc hl hn0
  go_enter Try.func19, Try.ntmps19
  go_upto_region 1 with fail
  go_cut [6] (fun nm wx => nm = .bool (nmd 16 c) ∧ wx = w)
  case first =>
    by_cases c35 : c = 35
    · have He : Hid (nmd 16 c = false) := by show _ = _; simp [nmd, c35]
      have t1 : ((c : Int) != 35) = false := by rw [bne_eq_false_iff_eq]; omega
      clear c35
      go_wp2_with fail
      go_meet
      exact ⟨by rw [He.out], rfl⟩
    · have t1 : ((c : Int) != 35) = true := by rw [bne_iff_ne]; omega
      by_cases c38 : c = 38
      · have He : Hid (nmd 16 c = false) := by show _ = _; simp [nmd, c38]
        have t2 : ((c : Int) != 38) = false := by rw [bne_eq_false_iff_eq]; omega
        clear c35 c38
        go_wp2_with fail
        go_meet
        exact ⟨by rw [He.out], rfl⟩
      · have t2 : ((c : Int) != 38) = true := by rw [bne_iff_ne]; omega
        by_cases c59 : c = 59
        · have He : Hid (nmd 16 c = false) := by show _ = _; simp [nmd, c59]
          have t3 : ((c : Int) != 59) = false := by rw [bne_eq_false_iff_eq]; omega
          clear c35 c38 c59
          go_wp2_with fail
          go_meet
          exact ⟨by rw [He.out], rfl⟩
        · have He : Hid (nmd 16 c = true) := by show _ = _; simp [nmd, c35, c38, c59]
          have t3 : ((c : Int) != 59) = true := by rw [bne_iff_ne]; omega
          clear c35 c38 c59
          go_wp2_with fail
          go_meet
          exact ⟨by rw [He.out], rfl⟩
  case rest =>
    obtain ⟨rfl, hwc⟩ := hcut
    subst wc
    generalize nmd 16 c = nm at H2
    go_wp2_with fail
    refine (first_any hv cap 35 hn).mono ?_
    rintro e w' ⟨r, rfl, hw', hr⟩
    subst w'
    rcases hr with ⟨rfl, hno⟩ | ⟨k, rfl, hk, he, _⟩
    · have H1 : Hid ((run 16 (c :: V)).1 = (run 2 V).1) := run16 c V (fun e => hno (by simp [e]))
      have HV : Hid (∀ x ∈ V, x ≠ 35) := fun x hx e => hno (by rw [← e]; exact List.mem_cons_of_mem _ hx)
      clear hno hv hc0
      go_wp2_with fail
      refine (query_any hVA _ 2 (.inl rfl) (by omega) (by omega) HV.out).mono ?_
      rintro e w' ⟨rfl, hw'⟩
      subst w'
      go_wp2
      go_ret2
      exact one_mk H1.out H2.out
    · have hm := mem_of_getD hk he
      clear hk he hv hc0
      go_wp2
      go_ret2
      exact one_mk (r := 8) (run_hash _ hm) H2.out

theorem one_any {w : World} {a : Option Addr} {n : Nat} {T : List Nat} (hv : View w a n T) (cap s : Nat) (hs : Ok s) (hn : n ≤ 1048576) (hcap : n ≤ cap) : Calls Try.prog 19 #[.int .u8 (s : Int), .slice a n cap] w (One w s T) := by
  rcases hs with rfl | rfl | rfl | rfl | rfl
  · exact one_1 hv cap hn hcap
  · exact one_2 hv cap hn hcap
  · exact one_4 hv cap hn hcap
  · exact one_8 cap
  · by_cases h0 : n = 0
    · subst h0; exact one_16_nil hv cap
    · exact one_16 hv cap h0 hn hcap
end Go.Proofs.Qxb6602870a
