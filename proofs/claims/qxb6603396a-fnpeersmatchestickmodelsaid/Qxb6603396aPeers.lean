import Derived.Test.Qxb6603396aStart
import Derived.Deep.RegionHeld
namespace Go.Proofs.Qxb6603396a
open Go.RowKit Ieee
attribute [local go_sem] run_fadd run_fsub run_fmul run_fquo run_fmin run_storef

set_option maxRecDepth 100000 in
set_option maxHeartbeats 16000000 in
theorem peers_any (c : Ctx) (la0 : Option Addr) (ln0 lc0 : Nat) (sa0 : Option Addr) (sn0 sc0 : Nat) (xl0 xs0 : List Nat) (n : Nat) (fs : List Int) (ss : Nat → Ser) (vs : Nat → List Nat) (h : Start c la0 ln0 lc0 sa0 sn0 sc0 xl0 xs0 n fs ss vs) :
    Calls Try.prog 27 #[.pointer (some ⟨c.P, 0, none⟩), .agg #[.int .i64 c.tick, .int .i64 c.fst, .int .i64 c.lst, .slice c.ga c.gn c.gc], .agg (CfgCells c.V c.Z c.B c.S)] c.W (PeersPost c n fs ss vs) := by
  have hps := h.ps
  have HH : Hid (Start c la0 ln0 lc0 sa0 sn0 sc0 xl0 xs0 n fs ss vs) := h
  clear h
  obtain ⟨W1, hW1⟩ : ∃ W1, (c.W.alloc (.cells #[.int .i64 c.tick, .int .i64 c.fst, .int .i64 c.lst, .slice c.ga c.gn c.gc] 62)).alloc (.cells (CfgCells c.V c.Z c.B c.S) 36) = W1 := ⟨_, rfl⟩
  rw [hW1] at hps
  have f0 := HH.out.f0
  have l1 := HH.out.l1
  have nle := HH.out.nle
  have Hnl : Hid ((n : Int) = c.lst - c.fst + 1) := HH.out.nl
  have x1 : W1.cell? ⟨c.W.heap.size, 1, none⟩ = some (.int .i64 c.fst) := by rw [cell_of_row W1 _ 1 _ _ _ hps.g4]; rfl
  have x2 : W1.cell? ⟨c.W.heap.size, 2, none⟩ = some (.int .i64 c.lst) := by rw [cell_of_row W1 _ 2 _ _ _ hps.g4]; rfl
  have nv : wrap64 (wrap64 (c.lst - c.fst) + 1) = (n : Int) := by
    have := Hnl.out
    unfold wrap64; omega
  go_enter Try.func27, Try.ntmps27
  go_upto_region 2 with fail
  try rw [hW1]
  rw [nv]
  clear hW1 nv
  obtain ⟨i0, hi, hz0, hz1, hz2⟩ := info_parts Try.info22'
  have e3 : W1.cell? ⟨c.P, 3, none⟩ = some (.slice la0 ln0 lc0) := by rw [cell_of_row W1 _ 3 _ _ _ hps.im]; rfl
  have ow := own_head hps.l
  have hlo := hps.lo
  go_wp2_with (at_builtin; refine wpList_append_zeros _ rfl (.tmp 24) (.tmp 25) 42 3 rfl c.Lo 22 i0 Try.underlying42 Try.underlying3 hi hz0 hz1 hz2 (.slice la0 0 lc0) ?_ ?_ n ?_ nle ?_ ?_)
  case refine_1 => exact rfl
  case refine_2 => exact ow
  case refine_3 => exact rfl
  case refine_4 => exact hlo
  intro v' w2 ho hgr hbk
  obtain ⟨la, lc, rfl⟩ := own_shape ho
  rw [flts_zero] at ho
  have im2 : w2.heap[c.P]? = some (.cells (ImCells c.fa c.fn c.fc c.na c.nn c.nc c.ua c.un c.uc la0 ln0 lc0 sa0 sn0 sc0 c.bp) 78 (0, 0)) := by
    rw [grown_cell hgr hps.imlt (by rw [own_block_len la0 0 ln0]; exact own_ne_kind hps.l hps.im (by decide))]; exact hps.im
  have e3' : w2.cell? ⟨c.P, 3, none⟩ = some (.slice la0 ln0 lc0) := by rw [cell_of_row w2 _ 3 _ _ _ im2]; rfl
  have e3f : w2.frozen? ⟨c.P, 3, none⟩ = false := frozen_of_row w2 _ _ _ _ im2
  have hps2 := hps.newL ho hgr hbk
  obtain ⟨W2, hW2⟩ : ∃ W2, w2.setCell ⟨c.P, 3, none⟩ (.slice la n lc) = W2 := ⟨_, rfl⟩
  rw [hW2] at hps2
  clear hps x1 x2 e3 ow hlo ho hgr hbk im2
  go_upto_region 3 with fail
  try rw [hW2]
  clear hW2 e3' e3f
  have e4 : W2.cell? ⟨c.P, 4, none⟩ = some (.slice sa0 sn0 sc0) := by rw [cell_of_row W2 _ 4 _ _ _ hps2.im]; rfl
  have ow := own_head hps2.s
  have hlo := hps2.lo
  go_wp2_with (at_builtin; refine wpList_append_zeros _ rfl (.tmp 34) (.tmp 35) 42 3 rfl c.Lo 22 i0 Try.underlying42 Try.underlying3 hi hz0 hz1 hz2 (.slice sa0 0 sc0) ?_ ?_ n ?_ nle ?_ ?_)
  case refine_1 => exact rfl
  case refine_2 => exact ow
  case refine_3 => exact rfl
  case refine_4 => exact hlo
  intro v' w3 ho hgr hbk
  obtain ⟨sa, sc, rfl⟩ := own_shape ho
  rw [flts_zero] at ho
  have im2 : w3.heap[c.P]? = some (.cells (ImCells c.fa c.fn c.fc c.na c.nn c.nc c.ua c.un c.uc la n lc sa0 sn0 sc0 c.bp) 78 (0, 0)) := by
    rw [grown_cell hgr hps2.imlt (by rw [own_block_len sa0 0 sn0]; exact own_ne_kind hps2.s hps2.im (by decide))]; exact hps2.im
  have e4' : w3.cell? ⟨c.P, 4, none⟩ = some (.slice sa0 sn0 sc0) := by rw [cell_of_row w3 _ 4 _ _ _ im2]; rfl
  have e4f : w3.frozen? ⟨c.P, 4, none⟩ = false := frozen_of_row w3 _ _ _ _ im2
  have hps3 := hps2.newS ho hgr hbk
  obtain ⟨W3, hW3⟩ : ∃ W3, w3.setCell ⟨c.P, 4, none⟩ (.slice sa n sc) = W3 := ⟨_, rfl⟩
  rw [hW3] at hps3
  clear hps2 e4 ow hlo ho hgr hbk im2 hi hz0 hz1 hz2
  go_upto_region 4 with fail
  try rw [hW3]
  clear hW3 e4' e4f
  have v26 : W3.cell? ⟨c.W.heap.size + 1, 26, none⟩ = some (.float .f64 c.V) := by rw [cell_of_row W3 _ 26 _ _ _ hps3.g5]; rfl
  have v27 : W3.cell? ⟨c.W.heap.size + 1, 27, none⟩ = some (.float .f64 c.Z) := by rw [cell_of_row W3 _ 27 _ _ _ hps3.g5]; rfl
  go_wp2_with fail
  refine (near_any c.V c.Z _).mono ?_
  rintro e W4 ⟨nr, rfl, hnear, hb4⟩
  have hps4 := hps3.grow hb4
  have HN : Hid (Near c.V c.Z nr) := hnear
  have x3 : W4.cell? ⟨c.W.heap.size, 3, none⟩ = some (.slice c.ga c.gn c.gc) := by rw [cell_of_row W4 _ 3 _ _ _ hps4.g4]; rfl
  have hfull : Full c n fs ss vs 0 (List.replicate n 0) (List.replicate n 0) := ⟨by simp, by simp, fun j hj => by
    have e : (List.replicate n 0).getD j 0 = 0 := by simp [List.getD_eq_getElem?_getD, hj]
    rw [e]; exact ⟨rfl, rfl⟩⟩
  clear hps3 v26 v27 hb4 hnear
  go_wp2_with fail
  clear x3
  go_loopg [45] c.gn (fun gk s45 wr => ∃ (i : Nat) (xl xs : List Nat), s45 = .int .i64 (i : Int) ∧ i ≤ c.gn ∧ gk = c.gn - i ∧ PS c la n lc sa n sc xl xs wr ∧ Full c n fs ss vs i xl xs)
  case atStart => exact ⟨0, _, _, rfl, Nat.zero_le _, rfl, hps4, hfull⟩
  case round =>
    clear hps4 hfull
    obtain ⟨i, xl, xs, rfl, hi, rfl, hps, hfull⟩ := hrel
    obtain ⟨wo, hwo⟩ : ∃ wo : World, wo = wr := ⟨_, rfl⟩
    subst wr
    have gnle := HH.out.gn
    by_cases hlt : i < c.gn
    · obtain ⟨b, off, hga, hc⟩ := HH.out.g.view.cell (by omega)
      have hup := HH.out.g.up b off hga
      obtain ⟨c0, c1, c2, c3, c4, c5, c6⟩ := hc i hlt
      have hb := World.block_lt_of_cell? c.W _ c0
      have k0 := (hps.cell (p := ⟨b, off + i * 7, none⟩) hb (.inr hup)).trans c0
      have k1 := (hps.cell (p := ⟨b, off + i * 7 + 1, none⟩) hb (.inr hup)).trans c1
      have k2 := (hps.cell (p := ⟨b, off + i * 7 + 2, none⟩) hb (.inr hup)).trans c2
      have k3 := (hps.cell (p := ⟨b, off + i * 7 + 3, none⟩) hb (.inr hup)).trans c3
      have k4 := (hps.cell (p := ⟨b, off + i * 7 + 4, none⟩) hb (.inr hup)).trans c4
      have k5 := (hps.cell (p := ⟨b, off + i * 7 + 5, none⟩) hb (.inr hup)).trans c5
      have k6 := (hps.cell (p := ⟨b, off + i * 7 + 6, none⟩) hb (.inr hup)).trans c6
      have hvn := HH.out.vn i hlt
      obtain ⟨⟨g1, g2⟩, ⟨g3, g4⟩, ⟨g5, g6⟩⟩ := HH.out.fit i hlt
      have HSO : Hid (SerOk c.fst c.lst (ss i)) := HH.out.dom.2 i hlt
      have Hga : Hid (c.ga = some ⟨b, off, none⟩) := hga
      have hhalf : Half c n fs ss vs i (ss i).kf xl xs := hfull.half
      have hps1 := fun o => hps.grow ((Below.refl wo.heap.size wo).alloc (Nat.le_refl _) o)
      have hM : (wo.alloc (.cells (ss i).cells 80)).heap[wo.heap.size]? = some (.cells (ss i).cells 80 (0, 0)) := heap_alloc_last _ _
      have HM : Hid ((wo.alloc (.cells (ss i).cells 80)).heap[wo.heap.size]? = some (.cells (ss i).cells 80 (0, 0))) := hM
      clear c0 c1 c2 c3 c4 c5 c6 hc hM
      rw [hga]
      go_wp2_with fail
      have hpsA := hps1 (.cells (ss i).cells 80)
      clear hps1 hps hfull k0 k1 k2 k3 k4 k5 k6
      go_loopg [10] ((ss i).kl + 1 - (ss i).kf).toNat (fun gk s10 wq => ∃ (k : Int) (xl xs : List Nat), s10 = .int .i64 k ∧ (ss i).kf ≤ k ∧ gk = ((ss i).kl + 1 - k).toNat ∧ (k ≤ (ss i).kl + 1 ∨ k = (ss i).kf) ∧ PS c la n lc sa n sc xl xs wq ∧ wo.heap.size < wq.heap.size ∧ wq.heap[wo.heap.size]? = some (.cells (ss i).cells 80 (0, 0)) ∧ Half c n fs ss vs i k xl xs)
      case atStart => exact ⟨_, xl, xs, rfl, Int.le_refl _, rfl, .inr rfl, hpsA, by simp, HM.out, hhalf⟩
      case round =>
        clear hpsA HM hhalf xl xs
        obtain ⟨k, xl, xs, rfl, hk1, rfl, hk2, hps, hMs, hM, hhalf⟩ := hrel
        have m3 : wr.cell? ⟨wo.heap.size, 3, none⟩ = some (.int .i64 (ss i).kf) := by rw [cell_of_row wr _ 3 _ _ _ hM]; rfl
        have m0 : wr.cell? ⟨wo.heap.size, 0, none⟩ = some (.string (ss i).inst) := by rw [cell_of_row wr _ 0 _ _ _ hM]; rfl
        have m1 : wr.cell? ⟨wo.heap.size, 1, none⟩ = some (.int .i64 (ss i).first) := by rw [cell_of_row wr _ 1 _ _ _ hM]; rfl
        have m2 : wr.cell? ⟨wo.heap.size, 2, none⟩ = some (.slice (ss i).va (ss i).vn (ss i).vc) := by rw [cell_of_row wr _ 2 _ _ _ hM]; rfl
        have m4 : wr.cell? ⟨wo.heap.size, 4, none⟩ = some (.int .i64 (ss i).kl) := by rw [cell_of_row wr _ 4 _ _ _ hM]; rfl
        have x1 : wr.cell? ⟨c.W.heap.size, 1, none⟩ = some (.int .i64 c.fst) := by rw [cell_of_row wr _ 1 _ _ _ hps.g4]; rfl
        by_cases hk : k ≤ (ss i).kl
        · obtain ⟨o1, o2, o3, o4, o5⟩ := HSO.out (by omega)
          have hnl := Hnl.out
          obtain ⟨j, hkj⟩ : ∃ j : Nat, k = c.fst + (j : Int) := ⟨(k - c.fst).toNat, by omega⟩
          subst k
          have hj : j < n := by omega
          have ej : c.fst + (j : Int) - c.fst = (j : Int) := by omega
          have hkm : c.fst + (j : Int) + 1 ≤ 9223372036854775807 := by omega
          clear o3 hnl
          by_cases hu : c.un = 0
          · have HX : Hid (¬ Cnt (Hit c.un fs) c.fst c.V c.Z ss vs j i) := fun h => h.1.1 hu
            have him := hps.im
            rw [hu] at him
            have HIM : Hid (wr.heap[c.P]? = some (.cells (ImCells c.fa c.fn c.fc c.na c.nn c.nc c.ua 0 c.uc la n lc sa n sc c.bp) 78 (0, 0))) := him
            clear him hu
            go_wp2_with fail
            refine (unknown_none wr HIM.out (j : Int)).mono ?_
            rintro e w2 ⟨rfl, hh2, hb2⟩
            clear hh2
            have hps2 := hps.grow hb2
            have hM2 := (hb2.block _ hMs).trans hM
            have hb2s := hb2.size
            have HSk : Hid (Half c n fs ss vs i (c.fst + j + 1) xl xs) := hhalf.skip HX.out
            clear hhalf hps hM hb2
            go_wp2
            go_roundg ((ss i).kl + 1 - (c.fst + j + 1)).toNat
            case measure => omega
            case rel => exact ⟨c.fst + j + 1, xl, xs, by go_num, by omega, rfl, .inl (by omega), hps2, by omega, hM2, HSk.out⟩
          · obtain ⟨d1, d2⟩ := HH.out.dom.1 (by omega)
            obtain ⟨q1, q2, q3⟩ := d2 j hj
            have hfl := HH.out.f.len
            have hfv := hps.from HH.out.f HH.out.fb
            obtain ⟨x, hx⟩ : ∃ x : Nat, fs.getD j 0 = (x : Int) := ⟨(fs.getD j 0).toNat, by omega⟩
            obtain ⟨y, hy⟩ : ∃ y : Nat, fs.getD (j + 1) 0 = (y : Int) := ⟨(fs.getD (j + 1) 0).toNat, by omega⟩
            have hxy : x ≤ y := by omega
            have hyu : y ≤ c.un := by omega
            have hcall := unknown_some wr hps.im j hu HH.out.uc fs hfv (by omega) HH.out.fn x y hx hy hxy hyu
            have Hhit : Hid (Hit c.un fs j ↔ x < y) := ⟨fun h => by have := h.2; rw [hx, hy] at this; omega, fun h => ⟨hu, by rw [hx, hy]; omega⟩⟩
            have HC : Hid (Calls Try.prog 30 #[.pointer (some ⟨c.P, 0, none⟩), .int .i64 (j : Int)] wr fun e w' => (∃ a c, e = .returned (.slice a (y - x) c)) ∧ w'.heap = wr.heap ∧ Below wr.heap.size wr w') := hcall
            have hyx : y - x ≤ 1048576 := by have := HH.out.un; omega
            clear hcall d1 d2 q1 q2 q3 hfl hfv hx hy hu
            by_cases hlt2 : x < y
            · have hyx0 : (((y - x : Nat) : Int) == 0) = false := by rw [beq_eq_false_iff_ne]; omega
              have Hh : Hid (Hit c.un fs j) := Hhit.out.2 hlt2
              obtain ⟨pv, offv, hpv, hcv⟩ := (HH.out.g.view.vals i hlt).cell (by omega)
              have hvup := HH.out.g.vup i hlt pv offv hpv
              have hq0 : 0 ≤ c.fst + j - (ss i).first := by omega
              have hq1 : c.fst + j - (ss i).first < ((ss i).vn : Int) := by omega
              have hcv' : c.W.cell? ⟨pv, offv + (c.fst + j - (ss i).first).toNat, none⟩ = some (.float .f64 (valAt c.fst ss vs j i)) := hcv (c.fst + j - (ss i).first).toNat (by omega)
              have hpvb := World.block_lt_of_cell? c.W _ hcv'
              have Hpv : Hid ((ss i).va = some ⟨pv, offv, none⟩) := hpv
              clear hpv hcv
              go_wp2_with fail
              refine HC.out.mono ?_
              rintro e w2 ⟨⟨au, cu, rfl⟩, hh2, hb2⟩
              clear hh2
              have hps2 := hps.grow hb2
              have hM2 := (hb2.block _ hMs).trans hM
              have hb2s := hb2.size
              clear hps hM hb2 HC m0 m1 m2 m3 m4 x1
              have m0 : w2.cell? ⟨wo.heap.size, 0, none⟩ = some (.string (ss i).inst) := by rw [cell_of_row w2 _ 0 _ _ _ hM2]; rfl
              have m1 : w2.cell? ⟨wo.heap.size, 1, none⟩ = some (.int .i64 (ss i).first) := by rw [cell_of_row w2 _ 1 _ _ _ hM2]; rfl
              have m2 : w2.cell? ⟨wo.heap.size, 2, none⟩ = some (.slice (some ⟨pv, offv, none⟩) (ss i).vn (ss i).vc) := by rw [cell_of_row w2 _ 2 _ _ _ hM2, ← Hpv.out]; rfl
              have kv := (hps2.cell (p := ⟨pv, offv + (c.fst + j - (ss i).first).toNat, none⟩) hpvb (.inr hvup)).trans hcv'
              have v26 : w2.cell? ⟨c.W.heap.size + 1, 26, none⟩ = some (.float .f64 c.V) := by rw [cell_of_row w2 _ 26 _ _ _ hps2.g5]; rfl
              obtain ⟨v, hv⟩ : ∃ v, valAt c.fst ss vs j i = v := ⟨_, rfl⟩
              rw [hv] at kv
              have Hv : Hid (valAt c.fst ss vs j i = v) := hv
              clear hcv' hv
              go_upto_region 14 with fail
              go_cut [82] from 51 to 112 (fun s82 wx => ∃ bb : Bool, s82 = .bool bb ∧ (bb = true ↔ SatP c.V c.Z v) ∧ w2 = wx)
              case first =>
                cases e1 : (double.order c.V 0 == some .gt) with
                | false =>
                  have e1' : (FloatKind.f64.format.order c.V 0 == some .gt) = false := e1
                  have HX : Hid (¬ SatP c.V c.Z v) := fun h => by rw [h.1] at e1; cases e1
                  clear e1
                  go_wp2_with fail
                  go_meet
                  exact ⟨false, rfl, ⟨(fun h => by cases h), fun h => absurd h HX.out⟩, rfl⟩
                | true =>
                  have e1' : (FloatKind.f64.format.order c.V 0 == some .gt) = true := e1
                  have E1 : Hid (double.order c.V 0 = some .gt) := (by simpa using e1 : double.order c.V 0 = some .gt)
                  clear e1
                  go_wp2_with fail
                  go_meet
                  exact ⟨_, rfl, sat_by HN.out E1.out, rfl⟩
              case rest =>
                obtain ⟨bb, rfl, hbb, hwc⟩ := hcut
                subst wc
                cases bb with
                | true =>
                  have HX : Hid (¬ Cnt (Hit c.un fs) c.fst c.V c.Z ss vs j i) := fun h => h.2.2.2 (by rw [Hv.out]; exact hbb.1 rfl)
                  have HSk : Hid (Half c n fs ss vs i (c.fst + j + 1) xl xs) := hhalf.skip HX.out
                  clear hbb hhalf
                  go_wp2
                  go_roundg ((ss i).kl + 1 - (c.fst + j + 1)).toNat
                  case measure => omega
                  case rel => exact ⟨c.fst + j + 1, xl, xs, by go_num, by omega, rfl, .inl (by omega), hps2, by omega, hM2, HSk.out⟩
                | false =>
                  have HCn : Hid (Cnt (Hit c.un fs) c.fst c.V c.Z ss vs j i) := ⟨Hh.out, by omega, by omega, fun h => by rw [Hv.out] at h; have := hbb.2 h; cases this⟩
                  clear hbb
                  obtain ⟨gl, hgl⟩ := own_some hps2.l (by omega)
                  subst la
                  obtain ⟨gs, hgs⟩ := own_some hps2.s (by omega)
                  subst sa
                  have e3 : w2.cell? ⟨c.P, 3, none⟩ = some (.slice (some ⟨gl, 0, none⟩) n lc) := by rw [cell_of_row w2 _ 3 _ _ _ hps2.im]; rfl
                  have el : w2.cell? ⟨gl, j, none⟩ = some (.float .f64 (xl.getD j 0)) := own_at hps2.l hj
                  have ef : w2.frozen? ⟨gl, j, none⟩ = false := hps2.l.frozenAt j
                  have v8 : w2.cell? ⟨c.W.heap.size + 1, 8, none⟩ = some (.string ⟨#[]⟩) := by rw [cell_of_row w2 _ 8 _ _ _ hps2.g5]; rfl
                  have v9 : w2.cell? ⟨c.W.heap.size + 1, 9, none⟩ = some (.float .f64 c.B) := by rw [cell_of_row w2 _ 9 _ _ _ hps2.g5]; rfl
                  have hj0 : (j : Int) < (n : Int) := by omega
                  have glt : gl < w2.heap.size := (hps2.l.lt gl rfl).2
                  have plt : c.P < w2.heap.size := hps2.imlt
                  have olt : wo.heap.size < w2.heap.size := by omega
                  have HNe : Hid (wo.heap.size ≠ gl) := fun e => by obtain ⟨cur, hg⟩ := row_kind hps2.l; rw [← e, hM2] at hg; simp at hg
                  obtain ⟨X, hX⟩ : ∃ X, xl.getD j 0 = X := ⟨_, rfl⟩
                  rw [hX] at el
                  have HXx : Hid (xl.getD j 0 = X) := hX
                  clear hX
                  go_upto_region 15 with fail
                  go_cut [] from 51 to 112 (fun wx => ∃ c1 L, FRes (double.sub v c.B) c1 ∧ FRes (double.add X c1) L ∧ PS c (some ⟨gl, 0, none⟩) n lc (some ⟨gs, 0, none⟩) n sc (xl.set j L) xs wx ∧ wo.heap.size < wx.heap.size ∧ wx.heap[wo.heap.size]? = some (.cells (ss i).cells 80 (0, 0)))
                  case first =>
                    go_region_with (go_at_call 31; refine (contrib_any v c.B _ _).mono ?_; rintro e w5 ⟨r5, rfl, hr5, hb5⟩; have e3' := (hb5.cell (p := ⟨c.P, 3, none⟩) plt).trans e3; have el' := (hb5.cell (p := ⟨gl, j, none⟩) glt).trans el; have ef' := (hb5.frozen (p := ⟨gl, j, none⟩) glt).trans ef; have hb6 : Below w2.heap.size w2 w5 := ⟨hb5.os, hb5.tape, hb5.output, hb5.size, hb5.block⟩; clear hb5)
                    all_goals (try go_wp2_with fail)
                    all_goals go_meet
                    all_goals exact ⟨_, _, hr5, fV_res _ (nanAt_bits _ _ _), (hps2.grow (below_drewN hb6 _)).putL j _, by have := hb6.size; simp [World.setCell]; omega, by rw [Below.heap_setCell _ _ _ _ (fun e => HNe.out e)]; exact (hb6.block _ olt).trans hM2⟩
                  case rest =>
                    obtain ⟨c1, L, hc1, hL, hps5, hM5s, hM5⟩ := hcut
                    have HS1 : Hid (FRes (double.sub v c.B) c1) := hc1
                    have HS2 : Hid (FRes (double.add X c1) L) := hL
                    clear hc1 hL e3 el ef v8 v9 glt plt olt m0 m1 m2 kv v26 hps2 hM2 hb2s HNe
                    have e4 : wc.cell? ⟨c.P, 4, none⟩ = some (.slice (some ⟨gs, 0, none⟩) n sc) := by rw [cell_of_row wc _ 4 _ _ _ hps5.im]; rfl
                    have es : wc.cell? ⟨gs, j, none⟩ = some (.float .f64 (xs.getD j 0)) := own_at hps5.s hj
                    have esf : wc.frozen? ⟨gs, j, none⟩ = false := hps5.s.frozenAt j
                    have v12 : wc.cell? ⟨c.W.heap.size + 1, 12, none⟩ = some (.string ⟨#[]⟩) := by rw [cell_of_row wc _ 12 _ _ _ hps5.g5]; rfl
                    have v13 : wc.cell? ⟨c.W.heap.size + 1, 13, none⟩ = some (.float .f64 c.S) := by rw [cell_of_row wc _ 13 _ _ _ hps5.g5]; rfl
                    have x0 : wc.cell? ⟨c.W.heap.size, 0, none⟩ = some (.int .i64 c.tick) := by rw [cell_of_row wc _ 0 _ _ _ hps5.g4]; rfl
                    have m0 : wc.cell? ⟨wo.heap.size, 0, none⟩ = some (.string (ss i).inst) := by rw [cell_of_row wc _ 0 _ _ _ hM5]; rfl
                    have m1 : wc.cell? ⟨wo.heap.size, 1, none⟩ = some (.int .i64 (ss i).first) := by rw [cell_of_row wc _ 1 _ _ _ hM5]; rfl
                    have m2 : wc.cell? ⟨wo.heap.size, 2, none⟩ = some (.slice (ss i).va (ss i).vn (ss i).vc) := by rw [cell_of_row wc _ 2 _ _ _ hM5]; rfl
                    have m3 : wc.cell? ⟨wo.heap.size, 3, none⟩ = some (.int .i64 (ss i).kf) := by rw [cell_of_row wc _ 3 _ _ _ hM5]; rfl
                    have m4 : wc.cell? ⟨wo.heap.size, 4, none⟩ = some (.int .i64 (ss i).kl) := by rw [cell_of_row wc _ 4 _ _ _ hM5]; rfl
                    have m5 : wc.cell? ⟨wo.heap.size, 5, none⟩ = some (.int .i64 (ss i).start) := by rw [cell_of_row wc _ 5 _ _ _ hM5]; rfl
                    have m6 : wc.cell? ⟨wo.heap.size, 6, none⟩ = some (.bool (ss i).has) := by rw [cell_of_row wc _ 6 _ _ _ hM5]; rfl
                    have glt : gs < wc.heap.size := (hps5.s.lt gs rfl).2
                    have plt : c.P < wc.heap.size := hps5.imlt
                    have blt : c.W.heap.size + 1 < wc.heap.size := hps5.size
                    have alt : c.W.heap.size < wc.heap.size := by have := hps5.size; omega
                    have HNe : Hid (wo.heap.size ≠ gs) := fun e => by obtain ⟨cur, hg⟩ := row_kind hps5.s; rw [← e, hM5] at hg; simp at hg
                    obtain ⟨curs, hcurs⟩ := row_kind hps5.s
                    have n1 : ¬ gs = c.P := fun e => by have := hps5.im; rw [← e, hcurs] at this; simp at this
                    have n2 : ¬ gs = c.W.heap.size + 1 := fun e => by have := hps5.g5; rw [← e, hcurs] at this; simp at this
                    have n3 : ¬ gs = c.W.heap.size := fun e => by have := hps5.g4; rw [← e, hcurs] at this; simp at this
                    have n4 : ¬ gs = wo.heap.size := fun e => HNe.out e.symm
                    clear hcurs
                    obtain ⟨Y, hY⟩ : ∃ Y, xs.getD j 0 = Y := ⟨_, rfl⟩
                    rw [hY] at es
                    have HYy : Hid (xs.getD j 0 = Y) := hY
                    clear hY
                    have HAdd : Hid (∀ x2 S2, ShareOf (ss i) (c.fst + j) c.tick c.S x2 → FRes (double.add Y x2) S2 → Half c n fs ss vs i (c.fst + j + 1) (xl.set j L) (xs.set j S2)) := fun x2 S2 hsh hadd =>
                      hhalf.add hj HCn.out ⟨c1, x2, by rw [Hv.out]; exact HS1.out, by rw [HXx.out]; exact HS2.out, hsh, by rw [HYy.out]; exact hadd⟩
                    clear hhalf
                    go_upto_region 16 with fail
                    refine wp_region_held_drew (S := (fun w' => w'.cell? ⟨c.P, 4, none⟩ = some (.slice (some ⟨gs, 0, none⟩) n sc) ∧ w'.frozen? ⟨gs, j, none⟩ = false ∧ w'.cell? ⟨c.W.heap.size + 1, 12, none⟩ = some (.string ⟨#[]⟩) ∧ w'.cell? ⟨c.W.heap.size + 1, 13, none⟩ = some (.float .f64 c.S) ∧ w'.cell? ⟨c.W.heap.size, 0, none⟩ = some (.int .i64 c.tick) ∧ w'.cell? ⟨wo.heap.size, 0, none⟩ = some (.string (ss i).inst) ∧ w'.cell? ⟨wo.heap.size, 1, none⟩ = some (.int .i64 (ss i).first) ∧ w'.cell? ⟨wo.heap.size, 2, none⟩ = some (.slice (ss i).va (ss i).vn (ss i).vc) ∧ w'.cell? ⟨wo.heap.size, 3, none⟩ = some (.int .i64 (ss i).kf) ∧ w'.cell? ⟨wo.heap.size, 4, none⟩ = some (.int .i64 (ss i).kl) ∧ w'.cell? ⟨wo.heap.size, 5, none⟩ = some (.int .i64 (ss i).start) ∧ w'.cell? ⟨wo.heap.size, 6, none⟩ = some (.bool (ss i).has))) (by kernel_rfl) ?_ (fun hHeld => ?_)
                    · ((try dsimp only); go_keep)
                    refine wpAnyH_take (i := 0) (v := ?v1) rfl (by kernel_rfl) (by kernel_rfl) (by kernel_rfl) (fun _ _ _ h => h) (Or.inl ⟨by rfl, ?hy1⟩) (by assumption) ?rest1
                    case hy1 => (intro w hSw; (try dsimp only at hSw); go_simp; try with_reducible rfl)
                    refine wpAnyH_take (i := 1) (v := ?v2) rfl (by kernel_rfl) (by kernel_rfl) (by kernel_rfl) (fun _ _ _ h => h) (Or.inl ⟨by rfl, ?hy2⟩) (by assumption) ?rest2
                    case hy2 => (intro w hSw; (try dsimp only at hSw); go_simp; try with_reducible rfl)
                    refine wpAnyH_take (i := 2) (v := ?v3) rfl (by kernel_rfl) (by kernel_rfl) (by kernel_rfl) (fun _ _ _ h => h) (Or.inl ⟨by rfl, ?hy3⟩) (by assumption) ?rest3
                    case hy3 => (intro w hSw; (try dsimp only at hSw); go_simp; try with_reducible rfl)
                    refine wpAnyH_take (i := 3) (v := ?v4) rfl (by kernel_rfl) (by kernel_rfl) (by kernel_rfl) (fun _ _ _ h => h) (Or.inl ⟨by rfl, ?hy4⟩) (by assumption) ?rest4
                    case hy4 => (intro w hSw; (try dsimp only at hSw); go_simp; try with_reducible rfl)
                    refine wpAnyH_take (i := 4) (v := ?v5) rfl (by kernel_rfl) (by kernel_rfl) (by kernel_rfl) (fun _ _ _ h => h) (Or.inl ⟨by rfl, ?hy5⟩) (by assumption) ?rest5
                    case hy5 => (intro w hSw; (try dsimp only at hSw); go_simp; try with_reducible rfl)
                    refine wpAnyH_take (i := 5) (v := ?v6) rfl (by kernel_rfl) (by kernel_rfl) (by kernel_rfl) (fun _ _ _ h => h) (Or.inl ⟨by rfl, ?hy6⟩) (by assumption) ?rest6
                    case hy6 => (intro w hSw; (try dsimp only at hSw); go_simp; try with_reducible rfl)
                    refine wpAnyH_take (i := 7) (v := ?v7) rfl (by kernel_rfl) (by kernel_rfl) (by kernel_rfl) (fun _ _ _ h => h) (Or.inl ⟨by rfl, ?hy7⟩) (by assumption) ?rest7
                    case hy7 => (intro w hSw; (try dsimp only at hSw); go_simp; try with_reducible rfl)
                    refine wpAnyH_take (i := 8) (v := ?v8) rfl (by kernel_rfl) (by kernel_rfl) (by kernel_rfl) (fun _ _ _ h => h) (Or.inl ⟨by rfl, ?hy8⟩) (by assumption) ?rest8
                    case hy8 => (intro w hSw; (try dsimp only at hSw); go_simp; try with_reducible rfl)
                    refine wpAnyH_take (i := 9) (v := ?v9) rfl (by kernel_rfl) (by kernel_rfl) (by kernel_rfl) (fun _ _ _ h => h) (Or.inl ⟨by rfl, ?hy9⟩) (by assumption) ?rest9
                    case hy9 => (intro w hSw; (try dsimp only at hSw); go_simp; try with_reducible rfl)
                    refine wpAnyH_take (i := 10) (v := ?v10) rfl (by kernel_rfl) (by kernel_rfl) (by kernel_rfl) (fun _ _ _ h => h) (Or.inl ⟨by rfl, ?hy10⟩) (by assumption) ?rest10
                    case hy10 => (intro w hSw; (try dsimp only at hSw); go_simp; try with_reducible rfl)
                    refine wpAnyH_take (i := 11) (v := ?v11) rfl (by kernel_rfl) (by kernel_rfl) (by kernel_rfl) (fun _ _ _ h => h) (Or.inl ⟨by rfl, ?hy11⟩) (by assumption) ?rest11
                    case hy11 => (intro w hSw; (try dsimp only at hSw); go_simp; try with_reducible rfl)
                    refine wpAnyH_take (i := 12) (v := ?v12) rfl (by kernel_rfl) (by kernel_rfl) (by kernel_rfl) (fun _ _ _ h => h) (Or.inl ⟨by rfl, ?hy12⟩) (by assumption) ?rest12
                    case hy12 => (intro w hSw; (try dsimp only at hSw); go_simp; try with_reducible rfl)
                    refine wpAnyH_ready (rs := [6, 13]) (by kernel_rfl) (by simp) ?_
                    refine AllReadyH.cons rfl (fun K hK => ?_) ?_
                    · go_simp
                      refine hK.out _ _ ?_ (fun hHeld => ?_)
                      · ((try dsimp only); go_keep)
                      clear hK K
                      refine wpAnyH_ready (rs := [13]) (by kernel_rfl) (by simp) ?_
                      refine AllReadyH.cons rfl (fun K hK => ?_) ?_
                      · go_simp
                        go_at_call 32
                        refine (share_any (ss i) _ c.S (c.fst + j) c.tick _).mono ?_
                        rintro e w6 ⟨r6, rfl, hr6, hb6⟩
                        have e4' := (hb6.cell (p := ⟨c.P, 4, none⟩) plt).trans e4
                        have es' := (hb6.cell (p := ⟨gs, j, none⟩) glt).trans es
                        have esf' := (hb6.frozen (p := ⟨gs, j, none⟩) glt).trans esf
                        have v12' := (hb6.cell (p := ⟨c.W.heap.size + 1, 12, none⟩) blt).trans v12
                        have v13' := (hb6.cell (p := ⟨c.W.heap.size + 1, 13, none⟩) blt).trans v13
                        have x0' := (hb6.cell (p := ⟨c.W.heap.size, 0, none⟩) alt).trans x0
                        have m0' := (hb6.cell (p := ⟨wo.heap.size, 0, none⟩) hM5s).trans m0
                        have m1' := (hb6.cell (p := ⟨wo.heap.size, 1, none⟩) hM5s).trans m1
                        have m2' := (hb6.cell (p := ⟨wo.heap.size, 2, none⟩) hM5s).trans m2
                        have m3' := (hb6.cell (p := ⟨wo.heap.size, 3, none⟩) hM5s).trans m3
                        have m4' := (hb6.cell (p := ⟨wo.heap.size, 4, none⟩) hM5s).trans m4
                        have m5' := (hb6.cell (p := ⟨wo.heap.size, 5, none⟩) hM5s).trans m5
                        have m6' := (hb6.cell (p := ⟨wo.heap.size, 6, none⟩) hM5s).trans m6
                        have hb7 : Below wc.heap.size wc w6 := ⟨hb6.os, hb6.tape, hb6.output, hb6.size, hb6.block⟩
                        clear hb6
                        go_wp2_with fail
                        refine hK.out _ _ ?_ (fun hHeld => ?_)
                        · ((try dsimp only); go_keep)
                        clear hK K
                        refine wpAnyH_ready (rs := [14]) (by kernel_rfl) (by simp) ?_
                        refine AllReadyH.cons rfl (fun K hK => ?_) ?_
                        · go_simp
                          refine hK.out _ _ ?_ (fun hHeld => ?_)
                          · ((try dsimp only); go_keep)
                          clear hK K
                          refine wpAnyH_take (i := 15) (v := ?v13) rfl (by kernel_rfl) (by kernel_rfl) (by kernel_rfl) (fun _ _ _ h => h) (Or.inl ⟨by rfl, ?hy13⟩) (by assumption) ?rest13
                          case hy13 => (intro w hSw; (try dsimp only at hSw); go_simp; try with_reducible rfl)
                          refine wpAnyH_ready (rs := [16]) (by kernel_rfl) (by simp) ?_
                          refine AllReadyH.cons rfl (fun K hK => ?_) ?_
                          · go_simp
                            refine hK.out _ _ ?_ (fun hHeld => ?_)
                            · ((try dsimp only); go_keep)
                            clear hK K
                            refine wpAnyH_done (by kernel_rfl) ?_ _
                            clear hHeld e4 es esf v12 v13 x0 m0 m1 m2 m3 m4 m5 m6
                            clear e4' es' esf' v12' v13' x0' m0' m1' m2' m3' m4' m5' m6'
                            go_wp2_with fail
                            go_roundg ((ss i).kl + 1 - (c.fst + j + 1)).toNat
                            case measure => omega
                            case rel => exact ⟨c.fst + j + 1, _, _, by go_num, by omega, rfl, .inl (by omega), (hps5.grow (below_drewN hb7 _)).putS j _, by have := hb7.size; simp [World.setCell]; omega, by rw [Below.heap_setCell _ _ _ _ (fun e => HNe.out e)]; exact (hb7.block _ hM5s).trans hM5, HAdd.out _ _ hr6 (fV_res _ (nanAt_bits _ _ _))⟩
                          · exact AllReadyH.nil
                        · exact AllReadyH.nil
                      · exact AllReadyH.nil
                    · refine AllReadyH.cons rfl (fun K hK => ?_) ?_
                      · go_simp
                        go_at_call 32
                        refine (share_any (ss i) _ c.S (c.fst + j) c.tick _).mono ?_
                        rintro e w6 ⟨r6, rfl, hr6, hb6⟩
                        have e4' := (hb6.cell (p := ⟨c.P, 4, none⟩) plt).trans e4
                        have es' := (hb6.cell (p := ⟨gs, j, none⟩) glt).trans es
                        have esf' := (hb6.frozen (p := ⟨gs, j, none⟩) glt).trans esf
                        have v12' := (hb6.cell (p := ⟨c.W.heap.size + 1, 12, none⟩) blt).trans v12
                        have v13' := (hb6.cell (p := ⟨c.W.heap.size + 1, 13, none⟩) blt).trans v13
                        have x0' := (hb6.cell (p := ⟨c.W.heap.size, 0, none⟩) alt).trans x0
                        have m0' := (hb6.cell (p := ⟨wo.heap.size, 0, none⟩) hM5s).trans m0
                        have m1' := (hb6.cell (p := ⟨wo.heap.size, 1, none⟩) hM5s).trans m1
                        have m2' := (hb6.cell (p := ⟨wo.heap.size, 2, none⟩) hM5s).trans m2
                        have m3' := (hb6.cell (p := ⟨wo.heap.size, 3, none⟩) hM5s).trans m3
                        have m4' := (hb6.cell (p := ⟨wo.heap.size, 4, none⟩) hM5s).trans m4
                        have m5' := (hb6.cell (p := ⟨wo.heap.size, 5, none⟩) hM5s).trans m5
                        have m6' := (hb6.cell (p := ⟨wo.heap.size, 6, none⟩) hM5s).trans m6
                        have hb7 : Below wc.heap.size wc w6 := ⟨hb6.os, hb6.tape, hb6.output, hb6.size, hb6.block⟩
                        clear hb6
                        go_wp2_with fail
                        refine hK.out _ _ ?_ (fun hHeld => ?_)
                        · ((try dsimp only); go_keep)
                        clear hK K
                        refine wpAnyH_ready (rs := [6]) (by kernel_rfl) (by simp) ?_
                        refine AllReadyH.cons rfl (fun K hK => ?_) ?_
                        · go_simp
                          refine hK.out _ _ ?_ (fun hHeld => ?_)
                          · ((try dsimp only); go_keep)
                          clear hK K
                          refine wpAnyH_ready (rs := [14]) (by kernel_rfl) (by simp) ?_
                          refine AllReadyH.cons rfl (fun K hK => ?_) ?_
                          · go_simp
                            refine hK.out _ _ ?_ (fun hHeld => ?_)
                            · ((try dsimp only); go_keep)
                            clear hK K
                            refine wpAnyH_take (i := 15) (v := ?v14) rfl (by kernel_rfl) (by kernel_rfl) (by kernel_rfl) (fun _ _ _ h => h) (Or.inl ⟨by rfl, ?hy14⟩) (by assumption) ?rest14
                            case hy14 => (intro w hSw; (try dsimp only at hSw); go_simp; try with_reducible rfl)
                            refine wpAnyH_ready (rs := [16]) (by kernel_rfl) (by simp) ?_
                            refine AllReadyH.cons rfl (fun K hK => ?_) ?_
                            · go_simp
                              refine hK.out _ _ ?_ (fun hHeld => ?_)
                              · ((try dsimp only); go_keep)
                              clear hK K
                              refine wpAnyH_done (by kernel_rfl) ?_ _
                              clear hHeld e4 es esf v12 v13 x0 m0 m1 m2 m3 m4 m5 m6
                              clear e4' es' esf' v12' v13' x0' m0' m1' m2' m3' m4' m5' m6'
                              go_wp2_with fail
                              go_roundg ((ss i).kl + 1 - (c.fst + j + 1)).toNat
                              case measure => omega
                              case rel => exact ⟨c.fst + j + 1, _, _, by go_num, by omega, rfl, .inl (by omega), (hps5.grow (below_drewN hb7 _)).putS j _, by have := hb7.size; simp [World.setCell]; omega, by rw [Below.heap_setCell _ _ _ _ (fun e => HNe.out e)]; exact (hb7.block _ hM5s).trans hM5, HAdd.out _ _ hr6 (fV_res _ (nanAt_bits _ _ _))⟩
                            · exact AllReadyH.nil
                          · exact AllReadyH.nil
                        · exact AllReadyH.nil
                      exact AllReadyH.nil
            · have HX : Hid (¬ Cnt (Hit c.un fs) c.fst c.V c.Z ss vs j i) := fun h => by have := Hhit.out.1 h.1; omega
              have hyx0 : (((y - x : Nat) : Int) == 0) = true := by rw [beq_iff_eq]; omega
              go_wp2_with fail
              refine HC.out.mono ?_
              rintro e w2 ⟨⟨au, cu, rfl⟩, hh2, hb2⟩
              clear hh2
              have hps2 := hps.grow hb2
              have hM2 := (hb2.block _ hMs).trans hM
              have hb2s := hb2.size
              have HSk : Hid (Half c n fs ss vs i (c.fst + j + 1) xl xs) := hhalf.skip HX.out
              clear hhalf hps hM hb2 HC
              go_wp2
              go_roundg ((ss i).kl + 1 - (c.fst + j + 1)).toNat
              case measure => omega
              case rel => exact ⟨c.fst + j + 1, xl, xs, by go_num, by omega, rfl, .inl (by omega), hps2, by omega, hM2, HSk.out⟩
        · have hfull := hhalf.full (by omega)
          have HFu : Hid (Full c n fs ss vs (i + 1) xl xs) := hfull
          clear hfull hhalf
          go_wp2
          rw [← Hga.out]
          go_roundg (c.gn - (i + 1))
          case measure => omega
          case rel => exact ⟨i + 1, xl, xs, by go_num, hlt, rfl, hps, HFu.out⟩
    · have hieq : i = c.gn := by omega
      subst hieq
      go_wp2
      refine bodyPost_ret (results_none rfl _ _ _) rfl ?_
      exact ⟨la, lc, sa, sc, xl, xs, rfl, hps, hfull⟩
end Go.Proofs.Qxb6603396a
