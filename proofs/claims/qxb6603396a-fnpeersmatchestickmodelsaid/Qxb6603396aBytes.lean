import Derived.Test.Qxb6603396aDomain
namespace Go.Proofs.Qxb6603396a
open Go.RowKit Ieee

/-- What zzBytes says. -/
def Bounds (n0 n1 n2 n3 n4 sn : Nat) (ss : Nat → Ser) : Prop := n0 ≤ 1048576 ∧ n1 ≤ 1048576 ∧ n2 ≤ 1048576 ∧ n3 ≤ 1048576 ∧ n4 ≤ 1048576 ∧ sn ≤ 1048576 ∧ ∀ i, i < sn → (ss i).vn ≤ 1048576

set_option maxRecDepth 100000 in
set_option maxHeartbeats 4000000 in
theorem bytes_any (a0 a1 a2 a3 a4 : Option Addr) (n0 c0 n1 c1 n2 c2 n3 c3 n4 c4 : Nat) (bp : Bool) (tick fst lst : Int) (a : Option Addr) (sn c : Nat) (ss : Nat → Ser) (vs : Nat → List Nat) (V Z B S : Nat) (w : World)
    (m0 : n0 ≤ maxLen) (m1 : n1 ≤ maxLen) (m2 : n2 ≤ maxLen) (m3 : n3 ≤ maxLen) (m4 : n4 ≤ maxLen) (ms : sn ≤ maxLen) (hv : VS w a sn ss vs) :
    Calls Try.prog 8 #[.slice a0 n0 c0, .slice a1 n1 c1, .slice a2 n2 c2, .slice a3 n3 c3, .slice a4 n4 c4, .bool bp, .agg #[.int .i64 tick, .int .i64 fst, .int .i64 lst, .slice a sn c], .agg #[.float .f64 V, .float .f64 Z, .float .f64 B, .float .f64 S]] w
      (BoolPost w (Bounds n0 n1 n2 n3 n4 sn ss)) := by
  unfold maxLen at m0 m1 m2 m3 m4 ms
  have hB2 : ∀ o o', Below w.heap.size w ((w.alloc o).alloc o') := fun o o' => ((Below.refl _ _).alloc (Nat.le_refl _) _).alloc (by simp) _
  by_cases q0 : (n0 : Int) ≤ 1048576
  rotate_left
  · go_enter Try.func8, Try.ntmps8
    go_wp2
    go_ret
    exact ⟨false, rfl, (fun h => by cases h), hB2 _ _⟩
  by_cases q1 : (n1 : Int) ≤ 1048576
  rotate_left
  · go_enter Try.func8, Try.ntmps8
    go_wp2
    go_ret
    exact ⟨false, rfl, (fun h => by cases h), hB2 _ _⟩
  by_cases q2 : (n0 : Int) + (n1 : Int) ≤ 1048576
  rotate_left
  · go_enter Try.func8, Try.ntmps8
    go_wp2
    go_ret
    exact ⟨false, rfl, (fun h => by cases h), hB2 _ _⟩
  by_cases q3 : (n2 : Int) ≤ 1048576
  rotate_left
  · go_enter Try.func8, Try.ntmps8
    go_wp2
    go_ret
    exact ⟨false, rfl, (fun h => by cases h), hB2 _ _⟩
  by_cases q4 : (n0 : Int) + (n1 : Int) + (n2 : Int) ≤ 1048576
  rotate_left
  · go_enter Try.func8, Try.ntmps8
    go_wp2
    go_ret
    exact ⟨false, rfl, (fun h => by cases h), hB2 _ _⟩
  by_cases q5 : (n3 : Int) ≤ 1048576
  rotate_left
  · go_enter Try.func8, Try.ntmps8
    go_wp2
    go_ret
    exact ⟨false, rfl, (fun h => by cases h), hB2 _ _⟩
  by_cases q6 : (n0 : Int) + (n1 : Int) + (n2 : Int) + (n3 : Int) ≤ 1048576
  rotate_left
  · go_enter Try.func8, Try.ntmps8
    go_wp2
    go_ret
    exact ⟨false, rfl, (fun h => by cases h), hB2 _ _⟩
  by_cases q7 : (n4 : Int) ≤ 1048576
  rotate_left
  · go_enter Try.func8, Try.ntmps8
    go_wp2
    go_ret
    exact ⟨false, rfl, (fun h => by cases h), hB2 _ _⟩
  by_cases q8 : (n0 : Int) + (n1 : Int) + (n2 : Int) + (n3 : Int) + (n4 : Int) ≤ 1048576
  rotate_left
  · go_enter Try.func8, Try.ntmps8
    go_wp2
    go_ret
    exact ⟨false, rfl, (fun h => by cases h), hB2 _ _⟩
  by_cases q9 : (sn : Int) ≤ 1048576
  rotate_left
  · go_enter Try.func8, Try.ntmps8
    go_wp2
    go_ret
    exact ⟨false, rfl, (fun h => by cases h), hB2 _ _⟩
  by_cases q10 : (n0 : Int) + (n1 : Int) + (n2 : Int) + (n3 : Int) + (n4 : Int) + (sn : Int) ≤ 1048576
  rotate_left
  · go_enter Try.func8, Try.ntmps8
    go_wp2
    go_ret
    exact ⟨false, rfl, (fun h => by cases h), hB2 _ _⟩
  go_enter Try.func8, Try.ntmps8
  go_wp2
  generalize hW0 : (w.alloc _).alloc _ = W0
  have hB0 : Below w.heap.size w W0 := by rw [← hW0]; exact hB2 _ _
  have hx3 : W0.cell? ⟨w.heap.size, 3, none⟩ = some (.slice a sn c) := by rw [← hW0]; simp
  have hs0 : w.heap.size + 2 ≤ W0.heap.size := by rw [← hW0]; simp
  have HV : Hid (VS w a sn ss vs) := hv
  clear hW0 hv
  go_loopg [17, 18] sn (fun gk s17 s18 wr => W0 = wr ∧ ∃ (i : Nat) (z : Int), s17 = .int .i64 z ∧ 0 ≤ z ∧ z ≤ 1048576 ∧ s18 = .int .i64 (i : Int) ∧ i ≤ sn ∧ gk = sn - i ∧ ∀ q, q < i → (ss q).vn ≤ 1048576)
  case atStart => exact ⟨rfl, 0, _, rfl, by omega, by omega, rfl, Nat.zero_le _, rfl, fun q h => by omega⟩
  case round =>
    obtain ⟨hwr, i, z, rfl, z0, z1, rfl, hi, rfl, hall⟩ := hrel
    subst wr
    have HA : Hid (∀ q, q < i → (ss q).vn ≤ 1048576) := hall
    clear hall
    by_cases hlt : i < sn
    · obtain ⟨b, off, rfl, hc⟩ := HV.out.cell (by omega)
      obtain ⟨c0', _, c2', _, _, _, _⟩ := hc i hlt
      have hb := World.block_lt_of_cell? w _ c0'
      have k0 := (hB0.cell (p := ⟨b, off + i * 7, none⟩) hb).trans c0'
      have k2 := (hB0.cell (p := ⟨b, off + i * 7 + 2, none⟩) hb).trans c2'
      have hstr := HV.out.str i hlt
      have hvm := HV.out.vmax i hlt
      unfold maxLen at hstr hvm
      have hstep : (ss i).vn ≤ 1048576 → ∀ q, q < i + 1 → (ss q).vn ≤ 1048576 := fun h q hq => by
        by_cases e : q = i
        · subst e; exact h
        · exact HA.out q (by omega)
      have HS : Hid ((ss i).vn ≤ 1048576 → ∀ q, q < i + 1 → (ss q).vn ≤ 1048576) := hstep
      generalize ss i = s at *
      clear c0' c2' hc hstep
      by_cases t1 : (1048576 : Int) < (s.inst.size : Int)
      · go_wp2
        go_ret
        exact ⟨false, rfl, (fun h => by cases h), hB0⟩
      · by_cases t2 : (1048576 : Int) < z + (s.inst.size : Int)
        · go_wp2
          go_ret
          exact ⟨false, rfl, (fun h => by cases h), hB0⟩
        · by_cases t3 : (1048576 : Int) < (s.vn : Int)
          · go_wp2
            go_ret
            exact ⟨false, rfl, (fun h => by cases h), hB0⟩
          · by_cases t4 : (1048576 : Int) < z + (s.inst.size : Int) + (s.vn : Int)
            · go_wp2
              go_ret
              exact ⟨false, rfl, (fun h => by cases h), hB0⟩
            · go_wp2
              go_roundg (sn - (i + 1))
              case measure => omega
              case rel => exact ⟨rfl, i + 1, _, rfl, by omega, by omega, by go_num, hlt, rfl, HS.out (by omega)⟩
    · go_wp2
      go_ret
      exact ⟨true, rfl, fun _ => ⟨by omega, by omega, by omega, by omega, by omega, by omega, fun q hq => HA.out q (by omega)⟩, hB0⟩
end Go.Proofs.Qxb6603396a
