import Derived.Test.Qxb6603396aSums
import Derived.BigQuiet
namespace Go.Proofs.Qxb6603396a
open Go.RowKit Ieee
attribute [local go_sem] run_fadd run_fsub run_fmul run_fquo run_fmin run_storef

/-- Some series is unknown at tick index j. -/
def Hit (un : Nat) (fs : List Int) (j : Nat) : Prop := un ≠ 0 ∧ fs.getD j 0 < fs.getD (j + 1) 0

theorem sat_by {V Z v r : Nat} (h : Near V Z r) (h0 : double.order V 0 = some .gt) : (FloatKind.f64.format.order v r == some .gt) = true ↔ SatP V Z v := by
  rw [sat_iff h]
  show (double.order v r == some .gt) = true ↔ _
  simp [h0]

def ModelPost (R : Nat → Nat → Prop) (w : World) (e : Ending) (w' : World) : Prop := ∃ L S1, e = .returned (.tuple #[.float .f64 L, .float .f64 S1]) ∧ R L S1 ∧ Below w.heap.size w w'

set_option maxRecDepth 100000 in
set_option maxHeartbeats 2000000 in
theorem model_any (fa : Option Addr) (fn fc : Nat) (fs : List Int) (ua : Option Addr) (un uc n : Nat) (tick fst lst : Int) (a : Option Addr) (sn c : Nat) (ss : Nat → Ser) (vs : Nat → List Nat) (V Z B S : Nat) (w : World)
    (hf : Vw (.int .i64) 0 w fa fn fs) (hv : VS w a sn ss vs) (hfn : fn ≤ 1048576) (hun : un ≤ 1048576) (hsn : sn ≤ 1048576) (hvn : ∀ i, i < sn → (ss i).vn ≤ 1048576) (hfit : ∀ i, i < sn → (ss i).fit)
    (f0 : -9223372036854775808 ≤ fst) (l1 : lst ≤ 9223372036854775807) (hnl : (n : Int) = lst - fst + 1) (hD : Domain fs un n fst lst sn ss) (j : Nat) (hj : j < n) :
    Calls Try.prog 23 #[.slice fa fn fc, .slice ua un uc, .agg #[.int .i64 tick, .int .i64 fst, .int .i64 lst, .slice a sn c], .agg #[.float .f64 V, .float .f64 Z, .float .f64 B, .float .f64 S], .int .i64 (j : Int)] w
      (ModelPost (Sums PickOf (Hit un fs) fst tick V Z B S ss vs j sn) w) := by
  have HV : Hid (VS w a sn ss vs) := hv
  have HF : Hid (Vw (.int .i64) 0 w fa fn fs) := hf
  have Hvn : Hid (∀ i, i < sn → (ss i).vn ≤ 1048576) := hvn
  have Hfit : Hid (∀ i, i < sn → (ss i).fit) := hfit
  have HD : Hid (Domain fs un n fst lst sn ss) := hD
  clear hv hf hvn hfit hD
  have hB2 : ∀ o o', Below w.heap.size w ((w.alloc o).alloc o') := fun o o' => ((Below.refl _ _).alloc (Nat.le_refl _) _).alloc (by simp) _
  by_cases hu : un = 0
  · subst hu
    have HS : Hid (Sums PickOf (Hit 0 fs) fst tick V Z B S ss vs j sn 0 0) := Sums.none (fun h => h.1 rfl) sn
    go_enter Try.func23, Try.ntmps23
    go_wp2_with fail
    go_quiet (fail)
    go_wp2
    go_ret2
    exact ⟨0, 0, rfl, HS.out, below_drewN (hB2 _ _) _⟩
  · have hu2 : ((un : Int) == 0) = false := by rw [beq_eq_false_iff_ne]; omega
    obtain ⟨d1, d2⟩ := HD.out.1 (by omega)
    have hfl := HF.out.len
    obtain ⟨p, off, rfl, hc⟩ := HF.out.cell (by omega)
    have c0 := hc j (by omega)
    have c1 := hc (j + 1) (by omega)
    have hpb := World.block_lt_of_cell? w _ c0
    have hj1 : (j : Int) + 1 < (fn : Int) := by omega
    have hj0 : (j : Int) < (fn : Int) := by omega
    have hhit : Hit un fs j ↔ fs.getD j 0 < fs.getD (j + 1) 0 := ⟨fun h => h.2, fun h => ⟨hu, h⟩⟩
    clear hc d1 d2 hfl
    have HH : Hid (Hit un fs j ↔ fs.getD j 0 < fs.getD (j + 1) 0) := hhit
    clear hhit
    obtain ⟨x, hx⟩ : ∃ x, fs.getD j 0 = x := ⟨_, rfl⟩
    obtain ⟨y, hy⟩ : ∃ y, fs.getD (j + 1) 0 = y := ⟨_, rfl⟩
    rw [hx, hy] at HH
    rw [hx] at c0
    rw [hy] at c1
    clear hx hy
    obtain ⟨W0, hW0⟩ : ∃ W0, (w.alloc (.cells #[.int .i64 tick, .int .i64 fst, .int .i64 lst, .slice a sn c] 45)).alloc (.cells #[.float .f64 V, .float .f64 Z, .float .f64 B, .float .f64 S] 47) = W0 := ⟨_, rfl⟩
    have hB0 : Below w.heap.size w W0 := by rw [← hW0]; exact hB2 _ _
    have hx0 : W0.cell? ⟨w.heap.size, 0, none⟩ = some (.int .i64 tick) := by rw [← hW0]; simp
    have hx1 : W0.cell? ⟨w.heap.size, 1, none⟩ = some (.int .i64 fst) := by rw [← hW0]; simp
    have hx3 : W0.cell? ⟨w.heap.size, 3, none⟩ = some (.slice a sn c) := by rw [← hW0]; simp
    have hz0 : W0.cell? ⟨w.heap.size + 1, 0, none⟩ = some (.float .f64 V) := by rw [← hW0]; simp
    have hz1 : W0.cell? ⟨w.heap.size + 1, 1, none⟩ = some (.float .f64 Z) := by rw [← hW0]; simp
    have hz2 : W0.cell? ⟨w.heap.size + 1, 2, none⟩ = some (.float .f64 B) := by rw [← hW0]; simp
    have hz3 : W0.cell? ⟨w.heap.size + 1, 3, none⟩ = some (.float .f64 S) := by rw [← hW0]; simp
    have hs0 : w.heap.size + 2 ≤ W0.heap.size := by rw [← hW0]; simp
    have k0 := (hB0.cell (p := ⟨p, off + j, none⟩) hpb).trans c0
    have k1 := (hB0.cell (p := ⟨p, off + (j + 1), none⟩) hpb).trans c1
    clear c0 c1
    by_cases hxy : y ≤ x
    · have HS : Hid (Sums PickOf (Hit un fs) fst tick V Z B S ss vs j sn 0 0) := Sums.none (fun h => by have := HH.out.1 h; omega) sn
      have hxy' : decide (y ≤ x) = true := by simpa using hxy
      go_enter Try.func23, Try.ntmps23
      go_upto_region 3 with fail
      try rw [hW0]
      clear hW0
      go_quiet (fail)
      go_wp2
      go_ret2
      exact ⟨0, 0, rfl, HS.out, below_drewN hB0 _⟩
    · have Hhit : Hid (Hit un fs j) := HH.out.2 (by omega)
      have hxy' : decide (y ≤ x) = false := by simpa using hxy
      go_enter Try.func23, Try.ntmps23
      go_upto_region 3 with fail
      try rw [hW0]
      clear hW0
      go_quiet (fail)
      go_wp2_with fail
      clear k0 k1 hxy hxy' hu2 hj1 hj0
      go_loopg [12, 13, 15] sn (fun gk s12 s13 s15 wr => ∃ (L S1 i : Nat), s12 = .float .f64 L ∧ s13 = .float .f64 S1 ∧ s15 = .int .i64 (i : Int) ∧ i ≤ sn ∧ gk = sn - i ∧ Below (w.heap.size + 2) W0 wr ∧ Sums PickOf (Hit un fs) fst tick V Z B S ss vs j i L S1)
      case atStart => exact ⟨0, 0, 0, rfl, rfl, rfl, Nat.zero_le _, rfl, below_drewN (Below.refl _ _) _, ⟨rfl, rfl⟩⟩
      case round =>
        obtain ⟨L, S1, i, rfl, rfl, rfl, hi, rfl, hbel, hS⟩ := hrel
        have HS : Hid (Sums PickOf (Hit un fs) fst tick V Z B S ss vs j i L S1) := hS
        clear hS
        have y0 := (hbel.cell (p := ⟨w.heap.size, 0, none⟩) (by simp)).trans hx0
        have y3 := (hbel.cell (p := ⟨w.heap.size, 3, none⟩) (by simp)).trans hx3
        have hBw : Below w.heap.size w wr := hB0.trans (hbel.mono (by omega))
        by_cases hlt : i < sn
        · obtain ⟨b, off2, rfl, hc⟩ := HV.out.cell (by omega)
          obtain ⟨c0, c1, c2, c3, c4, c5, c6⟩ := hc i hlt
          have hb := World.block_lt_of_cell? w _ c0
          have k0 := (hBw.cell (p := ⟨b, off2 + i * 7, none⟩) hb).trans c0
          have k1 := (hBw.cell (p := ⟨b, off2 + i * 7 + 1, none⟩) hb).trans c1
          have k2 := (hBw.cell (p := ⟨b, off2 + i * 7 + 2, none⟩) hb).trans c2
          have k3 := (hBw.cell (p := ⟨b, off2 + i * 7 + 3, none⟩) hb).trans c3
          have k4 := (hBw.cell (p := ⟨b, off2 + i * 7 + 4, none⟩) hb).trans c4
          have k5 := (hBw.cell (p := ⟨b, off2 + i * 7 + 5, none⟩) hb).trans c5
          have k6 := (hBw.cell (p := ⟨b, off2 + i * 7 + 6, none⟩) hb).trans c6
          have hvn := Hvn.out i hlt
          obtain ⟨⟨g1, g2⟩, ⟨g3, g4⟩, ⟨g5, g6⟩⟩ := Hfit.out i hlt
          have hso := HD.out.2 i hlt
          have hsz : w.heap.size + 2 ≤ wr.heap.size := Nat.le_trans hs0 hbel.size
          have hbA := fun o => hbel.alloc hsz o
          have z0 := fun o => ((hbA o).cell (p := ⟨w.heap.size + 1, 0, none⟩) (by simp)).trans hz0
          have z1 := fun o => ((hbA o).cell (p := ⟨w.heap.size + 1, 1, none⟩) (by simp)).trans hz1
          have z2 := fun o => ((hbA o).cell (p := ⟨w.heap.size + 1, 2, none⟩) (by simp)).trans hz2
          have z3 := fun o => ((hbA o).cell (p := ⟨w.heap.size + 1, 3, none⟩) (by simp)).trans hz3
          have y0' := fun o => ((hbA o).cell (p := ⟨w.heap.size, 0, none⟩) (by simp)).trans hx0
          have hstep0 : ¬ Cnt (Hit un fs) fst V Z ss vs j i → Sums PickOf (Hit un fs) fst tick V Z B S ss vs j (i + 1) L S1 := HS.out.no
          have hstep1 : ∀ L' S', Cnt (Hit un fs) fst V Z ss vs j i → Step PickOf fst tick B S ss vs j i L S1 L' S' → Sums PickOf (Hit un fs) fst tick V Z B S ss vs j (i + 1) L' S' := fun L' S' hc hs => HS.out.yes hc hs
          have hvw := HV.out.vals i hlt
          have hva : valAt fst ss vs j i = (vs i).getD (fst + j - (ss i).first).toNat 0 := rfl
          unfold Cnt at hstep0 hstep1
          unfold Step at hstep1
          obtain ⟨v, hv⟩ : ∃ v, valAt fst ss vs j i = v := ⟨_, rfl⟩
          rw [hv] at hstep0 hstep1 hva
          clear hv
          generalize ss i = s at *
          have H0 : Hid (¬ (Hit un fs j ∧ s.kf ≤ fst + j ∧ fst + j ≤ s.kl ∧ ¬ SatP V Z v) → Sums PickOf (Hit un fs) fst tick V Z B S ss vs j (i + 1) L S1) := hstep0
          have H1 : Hid (∀ L' S', (Hit un fs j ∧ s.kf ≤ fst + j ∧ fst + j ≤ s.kl ∧ ¬ SatP V Z v) → (∃ c x, FRes (double.sub v B) c ∧ FRes (double.add L c) L' ∧ PickOf s (fst + j) tick S x ∧ FRes (double.add S1 x) S') → Sums PickOf (Hit un fs) fst tick V Z B S ss vs j (i + 1) L' S') := hstep1
          clear hstep0 hstep1 c0 c1 c2 c3 c4 c5 c6 hc
          by_cases t0 : fst + j < s.kf
          · clear hvw hva hso
            go_wp2
            go_roundg (sn - (i + 1))
            case measure => omega
            case rel => exact ⟨L, S1, i + 1, rfl, rfl, by go_num, hlt, rfl, hbA _, H0.out fun h => by omega⟩
          · by_cases t1 : s.kl < fst + j
            · clear hvw hva hso
              go_wp2
              go_roundg (sn - (i + 1))
              case measure => omega
              case rel => exact ⟨L, S1, i + 1, rfl, rfl, by go_num, hlt, rfl, hbA _, H0.out fun h => by omega⟩
            · obtain ⟨o1, o2, o3, o4, o5⟩ := hso (by omega)
              have q0 : 0 ≤ fst + j - s.first := by omega
              have q1 : fst + j - s.first < (s.vn : Int) := by omega
              obtain ⟨pv, offv, hpv, hcv⟩ := hvw.cell (by omega)
              have hcv' := hcv (fst + j - s.first).toNat (by omega)
              rw [← hva] at hcv'
              have hpvb := World.block_lt_of_cell? w _ hcv'
              have kv := fun o => ((hBw.alloc (by omega) o).cell (p := ⟨pv, offv + (fst + j - s.first).toNat, none⟩) hpvb).trans hcv'
              have Hva : Hid (s.va = some ⟨pv, offv, none⟩) := hpv
              rw [hpv] at k2
              clear hvw hva hcv hcv' hso hpv
              go_upto_region 12 with fail
              go_cut [81] (fun s81 wx => ∃ (bb : Bool) (q : Nat), s81 = .bool bb ∧ (bb = true ↔ SatP V Z v) ∧ wx = (wr.alloc (.cells #[.string s.inst, .int .i64 s.first, .slice (some ⟨pv, offv, none⟩) s.vn s.vc, .int .i64 s.kf, .int .i64 s.kl, .int .i64 s.start, .bool s.has] 75)).drewN q)
              case first =>
                cases e1 : (double.order V 0 == some .gt) with
                | false =>
                  have e1' : (FloatKind.f64.format.order V 0 == some .gt) = false := e1
                  have HX : Hid (¬ SatP V Z v) := fun h => by rw [h.1] at e1; cases e1
                  clear e1
                  go_wp2_with fail
                  go_meet
                  exact ⟨false, 0, rfl, ⟨(fun h => by cases h), fun h => absurd h HX.out⟩, rfl⟩
                | true =>
                  have e1' : (FloatKind.f64.format.order V 0 == some .gt) = true := e1
                  have E1 : Hid (double.order V 0 = some .gt) := (by simpa using e1 : double.order V 0 = some .gt)
                  clear e1
                  go_wp2_with fail
                  go_meet
                  exact ⟨_, _, rfl, sat_by ⟨_, fV_res _ (nanAt_bits _ _ _), fV_res _ (nanAt_bits _ _ _)⟩ E1.out, rfl⟩
              case rest =>
                obtain ⟨bb, q, rfl, hbb, hwc⟩ := hcut
                subst wc
                cases bb with
                | true =>
                  have HB : Hid (SatP V Z v) := hbb.1 rfl
                  clear hbb
                  go_wp2
                  go_roundg (sn - (i + 1))
                  case measure => omega
                  case rel => exact ⟨L, S1, i + 1, rfl, rfl, by go_num, hlt, rfl, below_drewN (hbA _) _, H0.out fun h => h.2.2.2 HB.out⟩
                | false =>
                  have HB : Hid (¬ SatP V Z v) := fun h => by have := hbb.2 h; cases this
                  clear hbb
                  go_wp2_with fail
                  refine (pick_any { s with va := some ⟨pv, offv, none⟩ } S (fst + j) tick _).mono ?_
                  rintro e w2 ⟨x2, rfl, hpk, hb2⟩
                  have HP : Hid (PickOf s (fst + j) tick S x2) := hpk
                  have hbw2 : Below (w.heap.size + 2) W0 w2 := (below_drewN (hbA _) _).trans (hb2.mono (by simp; omega))
                  clear hpk hb2
                  go_wp2
                  go_roundg (sn - (i + 1))
                  case measure => omega
                  case rel => exact ⟨_, _, i + 1, rfl, rfl, by go_num, hlt, rfl, below_drewN hbw2 _, H1.out _ _ ⟨Hhit.out, by omega, by omega, HB.out⟩ ⟨_, x2, fV_res _ (nanAt_bits _ _ _), fV_res _ (nanAt_bits _ _ _), HP.out, fV_res _ (nanAt_bits _ _ _)⟩⟩
        · have hieq : i = sn := by omega
          subst hieq
          clear HV Hvn Hfit HD
          go_wp2
          go_ret2
          exact ⟨L, S1, rfl, HS.out, hBw⟩
end Go.Proofs.Qxb6603396a
