import Derived.Test.Qxb6602901aScan
namespace Go.Proofs.Qxb6602901a
open Go.RowKit

theorem zscan_any {w : World} {a : Option Addr} {n : Nat} {T : List Nat} (hv : View w a n T) (cap i : Nat) (hi : i ≤ n) (hn : n ≤ 2097152) :
    Calls Try.prog 9 #[.slice a n cap, .int .i64 (i : Int)] w (Scan w T i) := by
  go_enter Try.func9, Try.ntmps9
  go_wp2_with fail
  refine (scan_any hv cap i hi hn).mono ?_
  rintro e w' ⟨rfl, hw'⟩
  subst w'
  go_wp2
  go_ret2
  exact ⟨rfl, rfl⟩

theorem zz7_yes (a : Option Addr) (n cap : Nat) (x : Int) (w : World) (h : n ≤ 1048576) :
    Calls Try.prog 7 #[.slice a n cap, .int .i64 x] w fun e w' => e = .returned (.bool true) ∧ w' = w := by
  go_enter Try.func7, Try.ntmps7
  go_wp2
  go_ret
  exact ⟨rfl, rfl⟩
theorem zz7_no (a : Option Addr) (n cap : Nat) (x : Int) (w : World) (h : 1048576 < n) :
    Calls Try.prog 7 #[.slice a n cap, .int .i64 x] w fun e w' => e = .returned (.bool false) ∧ w' = w := by
  go_enter Try.func7, Try.ntmps7
  go_wp2
  go_ret
  exact ⟨rfl, rfl⟩

set_option maxRecDepth 100000 in
set_option maxHeartbeats 400000 in
theorem law3 {w : World} {a : Option Addr} {L cap : Nat} {T : List Nat} (hv : View w a L T) (ha : a = none → L = 0) (x : Int) :
    Calls Try.prog 3 #[.slice a L cap, .int .i64 x] w (Fine w) := by
  by_cases h0 : L ≤ 1048576
  · by_cases h1 : x < 0
    · go_enter Try.func3, Try.ntmps3
      go_wp2_with fail
      refine (zz7_yes _ _ _ _ _ h0).mono ?_
      rintro e w' ⟨rfl, hw'⟩
      subst w'
      go_wp2
      go_ret
      exact ⟨rfl, Below.refl _ _⟩
    · by_cases h2 : (L : Int) < x
      · go_enter Try.func3, Try.ntmps3
        go_wp2_with fail
        refine (zz7_yes _ _ _ _ _ h0).mono ?_
        rintro e w' ⟨rfl, hw'⟩
        subst w'
        go_wp2
        go_ret
        exact ⟨rfl, Below.refl _ _⟩
      · obtain ⟨i, rfl⟩ : ∃ k : Nat, x = (k : Int) := ⟨x.toNat, by omega⟩
        go_enter Try.func3, Try.ntmps3
        go_wp2_with fail
        refine (zz7_yes _ _ _ _ _ h0).mono ?_
        rintro e w' ⟨rfl, hw'⟩
        subst w'
        go_wp2_with fail
        refine (clone_any a L cap T w hv h0 ha).mono ?_
        rintro e w1 ⟨ao, cp, rfl, hown, hbel⟩
        have hv1 : View w1 ao L T := view_later hown hv.byte (Below.refl w1.heap.size w1) (Nat.le_refl _)
        obtain ⟨E, HE⟩ : ∃ E : Nat, Hid (i + (aut 0 (T.drop i)).1 = E) := ⟨_, rfl⟩
        obtain ⟨N, HN⟩ : ∃ N : Bool, Hid (acc (aut 0 (T.drop i)).2 = N) := ⟨_, rfl⟩
        clear hv ha hown
        go_wp2_with fail
        refine (zscan_any hv1 cp i (by omega) (by omega)).mono ?_
        rintro e w' ⟨rfl, hw'⟩
        subst w'
        rw [HE.out, HN.out]
        go_wp2_with fail
        refine (auto_any hv1 cp i (by omega) (by omega)).mono ?_
        rintro e w' ⟨rfl, hw'⟩
        subst w'
        rw [HE.out, HN.out]
        have t1 : ((E : Int) == (E : Int)) = true := by simp
        have t2 : (N == N) = true := by simp
        go_wp2
        go_ret
        exact ⟨rfl, hbel⟩
  · go_enter Try.func3, Try.ntmps3
    go_wp2_with fail
    refine (zz7_no _ _ _ _ _ (by omega)).mono ?_
    rintro e w' ⟨rfl, hw'⟩
    subst w'
    go_wp2
    go_ret
    exact ⟨rfl, Below.refl _ _⟩
end Go.Proofs.Qxb6602901a
