import Derived.Test.Qxb6603396aView
namespace Go.Proofs.Qxb6603396a
open Go.RowKit Ieee

set_option maxHeartbeats 400000 in
theorem impBytes_any (a0 a1 a2 a3 a4 : Option Addr) (n0 c0 n1 c1 n2 c2 n3 c3 n4 c4 : Nat) (w : World) (h0 : n0 ≤ 1048576) (h1 : n1 ≤ 1048576) (h2 : n2 ≤ 1048576) (h3 : n3 ≤ 1048576) (h4 : n4 ≤ 1048576) :
    Calls Try.prog 9 #[.slice a0 n0 c0, .slice a1 n1 c1, .slice a2 n2 c2, .slice a3 n3 c3, .slice a4 n4 c4] w fun e w' => (∃ r, e = .returned (.int .i64 r)) ∧ w' = w := by
  go_enter Try.func9, Try.ntmps9
  go_wp2
  go_ret
  exact ⟨⟨_, rfl⟩, rfl⟩

/-- What gridTicks answers. -/
def Ticks (fst lst : Int) (w : World) (e : Ending) (w' : World) : Prop :=
  ∃ (n : Nat) (ok : Bool), e = .returned (.tuple #[.int .i64 (n : Int), .bool ok]) ∧ w' = w ∧ (ok = true → n ≤ 65536 ∧ (n : Int) = lst - fst + 1)

theorem ticks_any (fst lst : Int) (w : World) (f0 : -9223372036854775808 ≤ fst) (f1 : fst ≤ 9223372036854775807) (l0 : -9223372036854775808 ≤ lst) (l1 : lst ≤ 9223372036854775807) :
    Calls Try.prog 11 #[.int .i64 fst, .int .i64 lst] w (Ticks fst lst w) := by
  by_cases h : lst < fst
  · go_enter Try.func11, Try.ntmps11
    go_wp2
    go_ret2
    exact ⟨0, _, rfl, rfl, fun h => ⟨by omega, by simp at h; omega⟩⟩
  · obtain ⟨d, hd⟩ : ∃ d : Nat, (d : Int) = lst - fst := ⟨(lst - fst).toNat, by omega⟩
    have e : IntKind.u64.wrap (IntKind.u64.wrap lst - IntKind.u64.wrap fst) = (d : Int) := by
      rw [IntKind.wrap_u64, IntKind.wrap_u64, IntKind.wrap_u64, hd]; omega
    have Hd : Hid ((d : Int) = lst - fst) := hd
    clear hd
    by_cases h2 : (65535 : Int) < (d : Int)
    · go_enter Try.func11, Try.ntmps11
      go_wp2
      go_ret2
      exact ⟨0, false, rfl, rfl, fun h => by cases h⟩
    · go_enter Try.func11, Try.ntmps11
      go_wp2
      go_ret2
      exact ⟨d + 1, true, by rw [show ((d + 1 : Nat) : Int) = (d : Int) + 1 by omega]; rfl, rfl, fun _ => ⟨by omega, by have := Hd.out; omega⟩⟩

/-- One series lies within the grid and within its values. -/
def SerOk (fst lst : Int) (s : Ser) : Prop := s.kf ≤ s.kl → fst ≤ s.kf ∧ s.kl ≤ lst ∧ s.kl ≠ 9223372036854775807 ∧ s.first ≤ s.kf ∧ s.kl - s.first < (s.vn : Int)
/-- What peersDomain says. -/
def Domain (fs : List Int) (un n : Nat) (fst lst : Int) (sn : Nat) (ss : Nat → Ser) : Prop :=
  (0 < un → n + 1 ≤ fs.length ∧ ∀ j, j < n → 0 ≤ fs.getD j 0 ∧ fs.getD j 0 ≤ fs.getD (j + 1) 0 ∧ fs.getD (j + 1) 0 ≤ (un : Int)) ∧ ∀ i, i < sn → SerOk fst lst (ss i)
def BoolPost (w : World) (p : Prop) (e : Ending) (w' : World) : Prop := ∃ r : Bool, e = .returned (.bool r) ∧ (r = true → p) ∧ Below w.heap.size w w'

/-- The integers of a series fit their kind. -/
def Ser.fit (s : Ser) : Prop := (-9223372036854775808 ≤ s.first ∧ s.first ≤ 9223372036854775807) ∧ (-9223372036854775808 ≤ s.kf ∧ s.kf ≤ 9223372036854775807) ∧ (-9223372036854775808 ≤ s.kl ∧ s.kl ≤ 9223372036854775807)

set_option maxRecDepth 100000 in
set_option maxHeartbeats 2000000 in
theorem domain_any (fa : Option Addr) (fn fc : Nat) (fs : List Int) (ua : Option Addr) (un uc n : Nat) (tick fst lst : Int) (a : Option Addr) (sn c : Nat) (ss : Nat → Ser) (vs : Nat → List Nat) (w : World)
    (hf : Vw (.int .i64) 0 w fa fn fs) (hv : VS w a sn ss vs) (hfn : fn ≤ 1048576) (hun : un ≤ 1048576) (hsn : sn ≤ 1048576) (hvn : ∀ i, i < sn → (ss i).vn ≤ 1048576) (hfit : ∀ i, i < sn → (ss i).fit) (hn : n ≤ 65536) :
    Calls Try.prog 12 #[.slice fa fn fc, .slice ua un uc, .int .i64 (n : Int), .agg #[.int .i64 tick, .int .i64 fst, .int .i64 lst, .slice a sn c]] w (BoolPost w (Domain fs un n fst lst sn ss)) := by
  obtain ⟨W0, hW0⟩ : ∃ W0, w.alloc (.cells #[.int .i64 tick, .int .i64 fst, .int .i64 lst, .slice a sn c] 45) = W0 := ⟨_, rfl⟩
  have hB0 : Below w.heap.size w W0 := by rw [← hW0]; exact (Below.refl _ _).alloc (Nat.le_refl _) _
  have hx1 : W0.cell? ⟨w.heap.size, 1, none⟩ = some (.int .i64 fst) := by rw [← hW0]; simp
  have hx2 : W0.cell? ⟨w.heap.size, 2, none⟩ = some (.int .i64 lst) := by rw [← hW0]; simp
  have hx3 : W0.cell? ⟨w.heap.size, 3, none⟩ = some (.slice a sn c) := by rw [← hW0]; simp
  have hs0 : w.heap.size + 1 ≤ W0.heap.size := by rw [← hW0]; simp
  have HV : Hid (VS w a sn ss vs) := hv
  have HF : Hid (Vw (.int .i64) 0 w fa fn fs) := hf
  have Hvn : Hid (∀ i, i < sn → (ss i).vn ≤ 1048576) := hvn
  have Hfit : Hid (∀ i, i < sn → (ss i).fit) := hfit
  clear hv hf hvn hfit
  go_enter Try.func12, Try.ntmps12
  go_upto_if 16 with fail
  go_cut [9, 10, 11] (fun s9 s10 s11 wx => W0 = wx ∧ (0 < un → n + 1 ≤ fs.length ∧ ∀ j, j < n → 0 ≤ fs.getD j 0 ∧ fs.getD j 0 ≤ fs.getD (j + 1) 0 ∧ fs.getD (j + 1) 0 ≤ (un : Int)))
  case first =>
    clear hW0
    by_cases hu : un = 0
    · subst hu
      go_wp2_with fail
      go_meet
      exact ⟨rfl, fun h => absurd h (by omega)⟩
    · have hu' : (0 : Int) < (un : Int) := by omega
      by_cases hfl : (fn : Int) < (n : Int) + 1
      · go_wp2_with fail
        go_ret
        exact ⟨false, rfl, (fun h => by cases h), hB0⟩
      · go_wp2_with fail
        go_loopg [9, 10, 11] n (fun gk s9 s10 s11 wr => W0 = wr ∧ ∃ j : Nat, s9 = .int .i64 (j : Int) ∧ j ≤ n ∧ gk = n - j ∧ ∀ k, k < j → 0 ≤ fs.getD k 0 ∧ fs.getD k 0 ≤ fs.getD (k + 1) 0 ∧ fs.getD (k + 1) 0 ≤ (un : Int))
        case atStart => exact ⟨rfl, 0, rfl, Nat.zero_le _, rfl, fun k h => by omega⟩
        case round =>
          obtain ⟨hwr, j, rfl, hj, rfl, hall⟩ := hrel
          subst wr
          have HA : Hid (∀ k, k < j → 0 ≤ fs.getD k 0 ∧ fs.getD k 0 ≤ fs.getD (k + 1) 0 ∧ fs.getD (k + 1) 0 ≤ (un : Int)) := hall
          clear hall
          by_cases hlt : j < n
          · obtain ⟨b, off, rfl, hc⟩ := HF.out.cell (by omega)
            have c0 := hc j (by omega)
            have c1 := hc (j + 1) (by omega)
            have hb := World.block_lt_of_cell? w _ c0
            have k0 := (hB0.cell (p := ⟨b, off + j, none⟩) hb).trans c0
            have k1 := (hB0.cell (p := ⟨b, off + (j + 1), none⟩) hb).trans c1
            obtain ⟨x, hx⟩ : ∃ x : Int, x = fs.getD j 0 := ⟨_, rfl⟩
            obtain ⟨y, hy⟩ : ∃ y : Int, y = fs.getD (j + 1) 0 := ⟨_, rfl⟩
            rw [← hx] at k0
            rw [← hy] at k1
            have HX : Hid (x = fs.getD j 0) := hx
            have HY : Hid (y = fs.getD (j + 1) 0) := hy
            have hj1 : (j : Int) + 1 < (fn : Int) := by omega
            have hj0 : (j : Int) < (fn : Int) := by omega
            clear hx hy c0 c1 hc
            by_cases t1 : x < 0
            · go_wp2_with fail
              go_ret
              exact ⟨false, rfl, (fun h => by cases h), hB0⟩
            · by_cases t2 : y < x
              · go_wp2_with fail
                go_ret
                exact ⟨false, rfl, (fun h => by cases h), hB0⟩
              · by_cases t3 : (un : Int) < y
                · go_wp2_with fail
                  go_ret
                  exact ⟨false, rfl, (fun h => by cases h), hB0⟩
                · go_wp2
                  go_roundg (n - (j + 1))
                  case measure => omega
                  case rel => exact ⟨rfl, j + 1, by go_num, hlt, rfl, fun k hk => by
                    by_cases e : k = j
                    · subst e; rw [← HX.out, ← HY.out]; omega
                    · exact HA.out k (by omega)⟩
          · go_wp2_with fail
            go_meet
            exact ⟨rfl, fun _ => ⟨by rw [HF.out.len]; omega, fun k hk => HA.out k (by omega)⟩⟩
  case rest =>
    obtain ⟨hwc, hD⟩ := hcut
    subst wc
    have HD : Hid (0 < un → n + 1 ≤ fs.length ∧ ∀ j, j < n → 0 ≤ fs.getD j 0 ∧ fs.getD j 0 ≤ fs.getD (j + 1) 0 ∧ fs.getD (j + 1) 0 ≤ (un : Int)) := hD
    clear hD hW0
    go_wp2_with fail
    go_loopg [12] sn (fun gk s12 wr => ∃ i : Nat, s12 = .int .i64 (i : Int) ∧ i ≤ sn ∧ gk = sn - i ∧ Below (w.heap.size + 1) W0 wr ∧ ∀ q, q < i → SerOk fst lst (ss q))
    case atStart => exact ⟨0, rfl, Nat.zero_le _, rfl, Below.refl _ _, fun q h => by omega⟩
    case round =>
      obtain ⟨i, rfl, hi, rfl, hbel, hall⟩ := hrel
      have HA : Hid (∀ q, q < i → SerOk fst lst (ss q)) := hall
      clear hall
      have y1 := (hbel.cell (p := ⟨w.heap.size, 1, none⟩) (by simp)).trans hx1
      have y2 := (hbel.cell (p := ⟨w.heap.size, 2, none⟩) (by simp)).trans hx2
      have y3 := (hbel.cell (p := ⟨w.heap.size, 3, none⟩) (by simp)).trans hx3
      have hBw : Below w.heap.size w wr := hB0.trans (hbel.mono (by omega))
      by_cases hlt : i < sn
      · obtain ⟨b, off, rfl, hc⟩ := HV.out.cell (by omega)
        obtain ⟨c0, c1, c2, c3, c4, c5, c6⟩ := hc i hlt
        have hb := World.block_lt_of_cell? w _ c0
        have k0 := (hBw.cell (p := ⟨b, off + i * 7, none⟩) hb).trans c0
        have k1 := (hBw.cell (p := ⟨b, off + i * 7 + 1, none⟩) hb).trans c1
        have k2 := (hBw.cell (p := ⟨b, off + i * 7 + 2, none⟩) hb).trans c2
        have k3 := (hBw.cell (p := ⟨b, off + i * 7 + 3, none⟩) hb).trans c3
        have k4 := (hBw.cell (p := ⟨b, off + i * 7 + 4, none⟩) hb).trans c4
        have k5 := (hBw.cell (p := ⟨b, off + i * 7 + 5, none⟩) hb).trans c5
        have k6 := (hBw.cell (p := ⟨b, off + i * 7 + 6, none⟩) hb).trans c6
        have hvn := Hvn.out i hlt
        obtain ⟨⟨g1, g2⟩, ⟨g3, g4⟩, ⟨g5, g6⟩⟩ := Hfit.out i hlt
        have hsz : w.heap.size + 1 ≤ wr.heap.size := Nat.le_trans hs0 hbel.size
        have y1' := fun o => ((hbel.alloc hsz o).cell (p := ⟨w.heap.size, 1, none⟩) (by simp)).trans hx1
        have y2' := fun o => ((hbel.alloc hsz o).cell (p := ⟨w.heap.size, 2, none⟩) (by simp)).trans hx2
        have hstep : SerOk fst lst (ss i) → ∀ q, q < i + 1 → SerOk fst lst (ss q) := fun h q hq => by
          by_cases e : q = i
          · subst e; exact h
          · exact HA.out q (by omega)
        have HS : Hid (SerOk fst lst (ss i) → ∀ q, q < i + 1 → SerOk fst lst (ss q)) := hstep
        generalize ss i = s at *
        clear c0 c1 c2 c3 c4 c5 c6 hc hstep
        by_cases t0 : s.kl < s.kf
        · have HO : Hid (SerOk fst lst s) := fun h => by omega
          go_wp2
          go_roundg (sn - (i + 1))
          case measure => omega
          case rel => exact ⟨i + 1, by go_num, hlt, rfl, hbel.alloc hsz _, HS.out HO.out⟩
        · by_cases t1 : s.kf < fst
          · go_wp2
            go_ret
            exact ⟨false, rfl, (fun h => by cases h), hBw.alloc (by omega) _⟩
          · by_cases t2 : lst < s.kl
            · go_wp2
              go_ret
              exact ⟨false, rfl, (fun h => by cases h), hBw.alloc (by omega) _⟩
            · by_cases t3 : s.kl = 9223372036854775807
              · have t3' : (s.kl == 9223372036854775807) = true := by rw [beq_iff_eq]; exact t3
                clear t3
                go_wp2
                go_ret
                exact ⟨false, rfl, (fun h => by cases h), hBw.alloc (by omega) _⟩
              · have t3' : (s.kl == 9223372036854775807) = false := by rw [beq_eq_false_iff_ne]; exact t3
                have H3 : Hid (s.kl ≠ 9223372036854775807) := t3
                clear t3
                by_cases t4 : s.kf < s.first
                · go_wp2
                  go_ret
                  exact ⟨false, rfl, (fun h => by cases h), hBw.alloc (by omega) _⟩
                · have e : IntKind.u64.wrap (IntKind.u64.wrap s.kl - IntKind.u64.wrap s.first) = s.kl - s.first := by
                    rw [IntKind.wrap_u64, IntKind.wrap_u64, IntKind.wrap_u64]; omega
                  by_cases t5 : (s.vn : Int) ≤ s.kl - s.first
                  · go_wp2
                    go_ret
                    exact ⟨false, rfl, (fun h => by cases h), hBw.alloc (by omega) _⟩
                  · have HO : Hid (SerOk fst lst s) := fun h => ⟨by omega, by omega, H3.out, by omega, by omega⟩
                    go_wp2
                    go_roundg (sn - (i + 1))
                    case measure => omega
                    case rel => exact ⟨i + 1, by go_num, hlt, rfl, hbel.alloc hsz _, HS.out HO.out⟩
      · go_wp2
        go_ret
        exact ⟨true, rfl, fun _ => ⟨HD.out, fun q hq => HA.out q (by omega)⟩, hBw⟩
end Go.Proofs.Qxb6603396a
