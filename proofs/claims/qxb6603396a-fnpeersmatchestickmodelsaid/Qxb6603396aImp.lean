import Derived.Test.Qxb6603396aClone
import Derived.BigQuiet
namespace Go.Proofs.Qxb6603396a
open Go.RowKit Ieee
attribute [local go_sem] run_fadd run_fsub run_fmul run_fquo run_fmin run_storef

def ImCells (fa : Option Addr) (fn fc : Nat) (na : Option Addr) (nn nc : Nat) (ua : Option Addr) (un uc : Nat) (la : Option Addr) (ln lc : Nat) (sa : Option Addr) (sn sc : Nat) (bp : Bool) : Array Value :=
  #[.slice fa fn fc, .slice na nn nc, .slice ua un uc, .slice la ln lc, .slice sa sn sc, .bool bp]

theorem new_any (fa : Option Addr) (fn fc : Nat) (na : Option Addr) (nn nc : Nat) (ua : Option Addr) (un uc : Nat) (la : Option Addr) (ln lc : Nat) (sa : Option Addr) (sn sc : Nat) (bp : Bool) (w : World) :
    Calls Try.prog 13 #[.slice fa fn fc, .slice na nn nc, .slice ua un uc, .slice la ln lc, .slice sa sn sc, .bool bp] w fun e w' => e = .returned (.pointer (some ⟨w.heap.size, 0, none⟩)) ∧ w' = w.alloc (.cells (ImCells fa fn fc na nn nc ua un uc la ln lc sa sn sc bp) 78) := by
  unfold ImCells
  go_enter Try.func13, Try.ntmps13
  go_wp2
  go_ret
  exact ⟨rfl, rfl⟩

theorem results_tmp6 {fn : Func} {t u v x y z : Tmp} (h : fn.results = #[.tmp t, .tmp u, .tmp v, .tmp x, .tmp y, .tmp z]) (tmps : Array Value) (P : Program) (w : World) :
    (results fn tmps).run P w = .ok (.tuple #[tmps.getD t undef, tmps.getD u undef, tmps.getD v undef, tmps.getD x undef, tmps.getD y undef, tmps.getD z undef]) w := by
  simp [results, h]

theorem fields_any {P : Nat} {fa : Option Addr} {fn fc : Nat} {na : Option Addr} {nn nc : Nat} {ua : Option Addr} {un uc : Nat} {la : Option Addr} {ln lc : Nat} {sa : Option Addr} {sn sc : Nat} {bp : Bool} (w : World)
    (h : w.heap[P]? = some (.cells (ImCells fa fn fc na nn nc ua un uc la ln lc sa sn sc bp) 78 (0, 0))) :
    Calls Try.prog 20 #[.pointer (some ⟨P, 0, none⟩)] w fun e w' => e = .returned (.tuple (ImCells fa fn fc na nn nc ua un uc la ln lc sa sn sc bp)) ∧ w'.heap = w.heap ∧ Below w.heap.size w w' := by
  unfold ImCells at h ⊢
  have c0 : w.cell? ⟨P, 0, none⟩ = some (.slice fa fn fc) := by rw [cell_of_row w P 0 _ _ _ h]; rfl
  have c1 : w.cell? ⟨P, 1, none⟩ = some (.slice na nn nc) := by rw [cell_of_row w P 1 _ _ _ h]; rfl
  have c2 : w.cell? ⟨P, 2, none⟩ = some (.slice ua un uc) := by rw [cell_of_row w P 2 _ _ _ h]; rfl
  have c3 : w.cell? ⟨P, 3, none⟩ = some (.slice la ln lc) := by rw [cell_of_row w P 3 _ _ _ h]; rfl
  have c4 : w.cell? ⟨P, 4, none⟩ = some (.slice sa sn sc) := by rw [cell_of_row w P 4 _ _ _ h]; rfl
  have c5 : w.cell? ⟨P, 5, none⟩ = some (.bool bp) := by rw [cell_of_row w P 5 _ _ _ h]; rfl
  clear h
  go_enter Try.func20, Try.ntmps20
  go_wp2_with fail
  go_quiet (fail)
  go_wp2
  refine bodyPost_ret (results_tmp6 rfl _ _ _) rfl ?_
  exact ⟨rfl, rfl, below_drewN (Below.refl _ _) _⟩

set_option maxRecDepth 100000 in
set_option maxHeartbeats 400000 in
theorem sameInts_any (a b : Option Addr) (n c c' : Nat) (xs : List Int) (w : World) (hv : Vw (.int .i64) 0 w a n xs) (hu : Vw (.int .i64) 0 w b n xs) (hab : a.isNone = b.isNone) (hn : n ≤ 1048576) :
    Calls Try.prog 21 #[.slice a n c, .slice b n c'] w fun e w' => e = .returned (.bool true) ∧ w'.heap = w.heap ∧ Below w.heap.size w w' := by
  have qT : ∀ (w : World) (a : Option Addr) (n c n' c' : Nat), (binOp .eql 40 (.slice a n c) (.slice none n' c')).run Try.prog w = .ok (.bool a.isNone) w := fun w a n c n' c' => Lib.run_eql_slice_nil w _ _ a n c n' c' Try.underlying40
  obtain ⟨nb, hnb⟩ : ∃ nb : Bool, nb = b.isNone := ⟨_, rfl⟩
  have HV : Hid (Vw (.int .i64) 0 w a n xs) := hv
  have HU : Hid (Vw (.int .i64) 0 w b n xs) := hu
  have q1 : ∀ w n' c', (binOp .eql 40 (.slice a n c) (.slice none n' c')).run Try.prog w = .ok (.bool nb) w := fun w n' c' => by rw [qT, hab, hnb]
  have q2 : ∀ w n' c'', (binOp .eql 40 (.slice b n c') (.slice none n' c'')).run Try.prog w = .ok (.bool nb) w := fun w n' c' => by rw [qT, hnb]
  clear hv hu qT hab hnb
  go_enter Try.func21, Try.ntmps21
  go_wp2_with fail
  all_goals (try (exfalso; simp_all; done))
  go_loopg [5] n (fun gk s5 wr => ∃ k : Nat, s5 = .int .i64 (k : Int) ∧ k ≤ n ∧ gk = n - k ∧ wr.heap = w.heap ∧ Below w.heap.size w wr)
  case atStart => exact ⟨0, rfl, Nat.zero_le _, rfl, rfl, Below.refl _ _⟩
  case round =>
    obtain ⟨k, rfl, hk, rfl, hh, hbel⟩ := hrel
    by_cases hlt : k < n
    · obtain ⟨p, off, rfl, hc⟩ := HV.out.cell (by omega)
      obtain ⟨p', off', rfl, hc'⟩ := HU.out.cell (by omega)
      have k0 := (hbel.cell (p := ⟨p, off + k, none⟩) (World.block_lt_of_cell? w _ (hc k hlt))).trans (hc k hlt)
      have k1 := (hbel.cell (p := ⟨p', off' + k, none⟩) (World.block_lt_of_cell? w _ (hc' k hlt))).trans (hc' k hlt)
      have hlt' : (k : Int) < (n : Int) := by omega
      generalize xs.getD k 0 = z at k0 k1
      have HH : Hid (wr.heap = w.heap) := hh
      clear hc hc' hh q1 q2
      go_wp2_with fail
      go_quiet (fail)
      go_wp2
      go_roundg (n - (k + 1))
      case measure => omega
      case rel => exact ⟨k + 1, by go_num, hlt, rfl, HH.out, below_drewN hbel _⟩
    · have HH : Hid (wr.heap = w.heap) := hh
      clear hh
      go_wp2
      go_ret
      exact ⟨rfl, HH.out, hbel⟩

set_option maxRecDepth 100000 in
set_option maxHeartbeats 400000 in
theorem sameI32_any (a b : Option Addr) (n c c' : Nat) (xs : List Int) (w : World) (hv : Vw (.int .i32) 0 w a n xs) (hu : Vw (.int .i32) 0 w b n xs) (hab : a.isNone = b.isNone) (hn : n ≤ 1048576) :
    Calls Try.prog 22 #[.slice a n c, .slice b n c'] w fun e w' => e = .returned (.bool true) ∧ w'.heap = w.heap ∧ Below w.heap.size w w' := by
  have qT : ∀ (w : World) (a : Option Addr) (n c n' c' : Nat), (binOp .eql 41 (.slice a n c) (.slice none n' c')).run Try.prog w = .ok (.bool a.isNone) w := fun w a n c n' c' => Lib.run_eql_slice_nil w _ _ a n c n' c' Try.underlying41
  obtain ⟨nb, hnb⟩ : ∃ nb : Bool, nb = b.isNone := ⟨_, rfl⟩
  have HV : Hid (Vw (.int .i32) 0 w a n xs) := hv
  have HU : Hid (Vw (.int .i32) 0 w b n xs) := hu
  have q1 : ∀ w n' c', (binOp .eql 41 (.slice a n c) (.slice none n' c')).run Try.prog w = .ok (.bool nb) w := fun w n' c' => by rw [qT, hab, hnb]
  have q2 : ∀ w n' c'', (binOp .eql 41 (.slice b n c') (.slice none n' c'')).run Try.prog w = .ok (.bool nb) w := fun w n' c' => by rw [qT, hnb]
  clear hv hu qT hab hnb
  go_enter Try.func22, Try.ntmps22
  go_wp2_with fail
  all_goals (try (exfalso; simp_all; done))
  go_loopg [5] n (fun gk s5 wr => ∃ k : Nat, s5 = .int .i64 (k : Int) ∧ k ≤ n ∧ gk = n - k ∧ wr.heap = w.heap ∧ Below w.heap.size w wr)
  case atStart => exact ⟨0, rfl, Nat.zero_le _, rfl, rfl, Below.refl _ _⟩
  case round =>
    obtain ⟨k, rfl, hk, rfl, hh, hbel⟩ := hrel
    by_cases hlt : k < n
    · obtain ⟨p, off, rfl, hc⟩ := HV.out.cell (by omega)
      obtain ⟨p', off', rfl, hc'⟩ := HU.out.cell (by omega)
      have k0 := (hbel.cell (p := ⟨p, off + k, none⟩) (World.block_lt_of_cell? w _ (hc k hlt))).trans (hc k hlt)
      have k1 := (hbel.cell (p := ⟨p', off' + k, none⟩) (World.block_lt_of_cell? w _ (hc' k hlt))).trans (hc' k hlt)
      have hlt' : (k : Int) < (n : Int) := by omega
      generalize xs.getD k 0 = z at k0 k1
      have HH : Hid (wr.heap = w.heap) := hh
      clear hc hc' hh q1 q2
      go_wp2_with fail
      go_quiet (fail)
      go_wp2
      go_roundg (n - (k + 1))
      case measure => omega
      case rel => exact ⟨k + 1, by go_num, hlt, rfl, HH.out, below_drewN hbel _⟩
    · have HH : Hid (wr.heap = w.heap) := hh
      clear hh
      go_wp2
      go_ret
      exact ⟨rfl, HH.out, hbel⟩

theorem unknown_none {P : Nat} {fa : Option Addr} {fn fc : Nat} {na : Option Addr} {nn nc : Nat} {ua : Option Addr} {uc : Nat} {la : Option Addr} {ln lc : Nat} {sa : Option Addr} {sn sc : Nat} {bp : Bool} (w : World)
    (h : w.heap[P]? = some (.cells (ImCells fa fn fc na nn nc ua 0 uc la ln lc sa sn sc bp) 78 (0, 0))) (j : Int) :
    Calls Try.prog 30 #[.pointer (some ⟨P, 0, none⟩), .int .i64 j] w fun e w' => e = .returned (.slice none 0 0) ∧ w'.heap = w.heap ∧ Below w.heap.size w w' := by
  unfold ImCells at h
  have c2 : w.cell? ⟨P, 2, none⟩ = some (.slice ua 0 uc) := by rw [cell_of_row w P 2 _ _ _ h]; rfl
  clear h
  go_enter Try.func30, Try.ntmps30
  go_wp2
  go_ret
  exact ⟨rfl, rfl, Below.refl _ _⟩

set_option maxRecDepth 100000 in
theorem unknown_some {P : Nat} {fa : Option Addr} {fn fc : Nat} {na : Option Addr} {nn nc : Nat} {ua : Option Addr} {un uc : Nat} {la : Option Addr} {ln lc : Nat} {sa : Option Addr} {sn sc : Nat} {bp : Bool} (w : World)
    (h : w.heap[P]? = some (.cells (ImCells fa fn fc na nn nc ua un uc la ln lc sa sn sc bp) 78 (0, 0))) (j : Nat) (hu : un ≠ 0) (hul : un ≤ uc) (fs : List Int) (hf : Vw (.int .i64) 0 w fa fn fs) (hj : j + 1 < fn) (hfn : fn ≤ 1048576)
    (x y : Nat) (hx : fs.getD j 0 = (x : Int)) (hy : fs.getD (j + 1) 0 = (y : Int)) (hxy : x ≤ y) (hyu : y ≤ un) :
    Calls Try.prog 30 #[.pointer (some ⟨P, 0, none⟩), .int .i64 (j : Int)] w fun e w' => (∃ a c, e = .returned (.slice a (y - x) c)) ∧ w'.heap = w.heap ∧ Below w.heap.size w w' := by
  unfold ImCells at h
  have c2 : w.cell? ⟨P, 2, none⟩ = some (.slice ua un uc) := by rw [cell_of_row w P 2 _ _ _ h]; rfl
  have c0 : w.cell? ⟨P, 0, none⟩ = some (.slice fa fn fc) := by rw [cell_of_row w P 0 _ _ _ h]; rfl
  obtain ⟨b, off, rfl, hc⟩ := hf.cell (by omega)
  have k0 := hc j (by omega)
  have k1 := hc (j + 1) hj
  rw [hx] at k0
  rw [hy] at k1
  have hu' : (un : Int) ≠ 0 := by omega
  have hu2 : ((un : Int) == 0) = false := by rw [beq_eq_false_iff_ne]; exact hu'
  have hj1 : (j : Int) + 1 < (fn : Int) := by omega
  have hj0 : (j : Int) < (fn : Int) := by omega
  clear hx hy hc hf h hu hu'
  go_enter Try.func30, Try.ntmps30
  go_wp2_with fail
  go_quiet (fail)
  go_wp2
  all_goals (go_ret; exact ⟨⟨_, _, rfl⟩, rfl, below_drewN (Below.refl _ _) _⟩)
end Go.Proofs.Qxb6603396a
