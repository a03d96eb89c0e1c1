import Derived.Test.Qxb6603396aLawA
namespace Go.Proofs.Qxb6603396a
open Go.RowKit Ieee
attribute [local go_sem] run_fadd run_fsub run_fmul run_fquo run_fmin run_storef

set_option maxRecDepth 100000 in
set_option maxHeartbeats 4000000 in
theorem law4 (w : World) (a0 a1 a2 a3 a4 : Option Addr) (n0 c0 n1 c1 n2 c2 n3 c3 n4 c4 : Nat) (fs ns us : List Int) (ls hs : List Nat) (bp : Bool) (tick fst lst : Int) (a : Option Addr) (sn c : Nat) (ss : Nat → Ser) (vs : Nat → List Nat) (V Z B S : Nat)
    (h : Ins w a0 a1 a2 a3 a4 n0 n1 n2 n3 n4 fs ns us ls hs fst lst a sn ss vs) :
    Calls Try.prog 4 #[.slice a0 n0 c0, .slice a1 n1 c1, .slice a2 n2 c2, .slice a3 n3 c3, .slice a4 n4 c4, .bool bp, .agg #[.int .i64 tick, .int .i64 fst, .int .i64 lst, .slice a sn c], .agg #[.float .f64 V, .float .f64 Z, .float .f64 B, .float .f64 S]] w (LawPost w) := by
  have HI : Hid (Ins w a0 a1 a2 a3 a4 n0 n1 n2 n3 n4 fs ns us ls hs fst lst a sn ss vs) := h
  clear h
  go_enter Try.func4, Try.ntmps4
  go_upto_region 1 with fail
  generalize hW0 : (w.alloc _).alloc _ = W0
  have hB0 : Below w.heap.size w W0 := by rw [← hW0]; exact ((Below.refl _ _).alloc (Nat.le_refl _) _).alloc (by simp) _
  have HBx : Hid (Boxes w.heap.size tick fst lst a sn c V Z B S W0) := by rw [← hW0]; exact ⟨by simp, by simp, by simp, by simp, by simp, by simp, by simp, by simp⟩
  clear hW0
  have HI0 : Hid (Ins W0 a0 a1 a2 a3 a4 n0 n1 n2 n3 n4 fs ns us ls hs fst lst a sn ss vs) := HI.out.grow hB0
  have hs0 : w.heap.size ≤ W0.heap.size := hB0.size
  clear HI
  obtain ⟨g0, g1, g2, g3, q0, q1, q2, q3⟩ := HBx.out
  go_wp2_with fail
  refine (bytes_any a0 a1 a2 a3 a4 n0 c0 n1 c1 n2 c2 n3 c3 n4 c4 bp tick fst lst a sn c ss vs V Z B S W0 HI0.out.m0 HI0.out.m1 HI0.out.m2 HI0.out.m3 HI0.out.m4 HI0.out.gm HI0.out.g).mono ?_
  rintro e w1 ⟨r1, rfl, hr1, hb1⟩
  have hB1 : Below w.heap.size w w1 := hB0.trans (hb1.mono hs0)
  clear g0 g1 g2 g3 q0 q1 q2 q3
  cases r1 with
  | false =>
    go_wp2
    go_ret
    exact ⟨rfl, hB1⟩
  | true =>
  have HBd : Hid (Bounds n0 n1 n2 n3 n4 sn ss) := hr1 rfl
  clear hr1
  have HBx1 : Hid (Boxes w.heap.size tick fst lst a sn c V Z B S w1) := HBx.out.grow hb1
  have HI1 : Hid (Ins w1 a0 a1 a2 a3 a4 n0 n1 n2 n3 n4 fs ns us ls hs fst lst a sn ss vs) := HI0.out.grow hb1
  clear HBx HI0 hb1 hB0 hs0 W0
  have hs1 := hB1.size
  obtain ⟨g0, g1, g2, g3, q0, q1, q2, q3⟩ := HBx1.out
  go_upto_region 3 with fail
  go_cut [48] (fun s48 wx => ∃ b : Bool, s48 = .bool b ∧ Below w1.heap.size w1 wx)
  case first =>
    obtain ⟨p0, p1, p2, p3, p4, p5, p6⟩ := HBd.out
    have HP : Hid (n0 ≤ 1048576 ∧ n1 ≤ 1048576 ∧ n2 ≤ 1048576 ∧ n3 ≤ 1048576 ∧ n4 ≤ 1048576) := ⟨p0, p1, p2, p3, p4⟩
    clear p0 p1 p2 p3 p4 p5 p6
    have HVS : Hid (VS w1.drew a sn ss vs) := HI1.out.g.kept (fun _ _ _ _ => rfl) (fun _ _ _ _ _ _ => rfl)
    go_region_with (first
      | (go_at_call 9; refine (impBytes_any a0 a1 a2 a3 a4 n0 c0 n1 c1 n2 c2 n3 c3 n4 c4 _ HP.out.1 HP.out.2.1 HP.out.2.2.1 HP.out.2.2.2.1 HP.out.2.2.2.2).mono ?_; rintro e w2 ⟨⟨r2, rfl⟩, hw2⟩; subst w2)
      | (go_at_call 10; refine (gridBytes_any tick fst lst a sn c ss vs _ HVS.out HI1.out.gm).mono ?_; rintro e w3 ⟨r3, rfl, hb3⟩; have hb4 : Below w1.heap.size w1 w3 := ⟨hb3.os, hb3.tape, hb3.output, hb3.size, hb3.block⟩; clear hb3))
    all_goals (try go_wp2_with fail)
    all_goals go_meet
    all_goals exact ⟨_, rfl, hb4⟩
  case rest =>
    obtain ⟨b48, rfl, hb4⟩ := hcut
    have hB4 : Below w.heap.size w wc := hB1.trans (hb4.mono hs1)
    have HBx4 : Hid (Boxes w.heap.size tick fst lst a sn c V Z B S wc) := HBx1.out.grow hb4
    have HI4 : Hid (Ins wc a0 a1 a2 a3 a4 n0 n1 n2 n3 n4 fs ns us ls hs fst lst a sn ss vs) := HI1.out.grow hb4
    clear g0 g1 g2 g3 q0 q1 q2 q3 HBx1 HI1 hb4 hB1 hs1
    cases b48 with
    | true =>
      go_wp2
      go_ret
      exact ⟨rfl, hB4⟩
    | false =>
    obtain ⟨g0, g1, g2, g3, q0, q1, q2, q3⟩ := HBx4.out
    go_wp2_with fail
    refine (ticks_any fst lst _ HI4.out.f0 HI4.out.f1 HI4.out.l0 HI4.out.l1).mono ?_
    rintro e w5 ⟨n, ok, rfl, hw5, hn⟩
    subst w5
    cases ok with
    | false =>
      go_wp2
      go_ret
      exact ⟨rfl, hB4⟩
    | true =>
    obtain ⟨nle, hnl⟩ := hn rfl
    have Hnl : Hid ((n : Int) = lst - fst + 1) := hnl
    obtain ⟨p0, p1, p2, p3, p4, p5, p6⟩ := HBd.out
    have hmul : IntKind.i64.wrap ((sn : Int) * (n : Int)) = (sn : Int) * (n : Int) := by
      have h1 : sn * n ≤ 1048576 * 65536 := Nat.mul_le_mul p5 nle
      have h2 : (sn : Int) * (n : Int) = ((sn * n : Nat) : Int) := by simp
      rw [h2]
      generalize sn * n = m at *
      rw [IntKind.wrap_i64]; omega
    clear hn hnl
    by_cases hwk : (16777216 : Int) < (sn : Int) * (n : Int)
    · go_wp2
      go_ret
      exact ⟨rfl, hB4⟩
    · go_wp2_with fail
      refine (domain_any a0 n0 c0 fs a2 n2 c2 n tick fst lst a sn c ss vs _ HI4.out.v0 HI4.out.g p0 p2 p5 p6 HI4.out.fit nle).mono ?_
      rintro e w5 ⟨r5, rfl, hr5, hb5⟩
      have s4 := hB4.size
      have hB5 : Below w.heap.size w w5 := hB4.trans (hb5.mono s4)
      have HBx5 : Hid (Boxes w.heap.size tick fst lst a sn c V Z B S w5) := HBx4.out.grow hb5
      have HI5 : Hid (Ins w5 a0 a1 a2 a3 a4 n0 n1 n2 n3 n4 fs ns us ls hs fst lst a sn ss vs) := HI4.out.grow hb5
      clear g0 g1 g2 g3 q0 q1 q2 q3 HBx4 HI4 hb5 hB4 s4 hmul
      cases r5 with
      | false =>
        go_wp2
        go_ret
        exact ⟨rfl, hB5⟩
      | true =>
      have HD : Hid (Domain fs n2 n fst lst sn ss) := hr5 rfl
      have HP6 : Hid (∀ i, i < sn → (ss i).vn ≤ 1048576) := p6
      clear hr5 p6
      go_wp2_with fail
      clear hwk
      refine (cloneInts_any a0 n0 c0 fs w5 HI5.out.v0 p0 HI5.out.z0).mono ?_
      rintro e w6 ⟨fa, fc, rfl, ho6, hb6, hz6⟩
      have HO6 : Hid (w6.ownsRow w5.heap.size 3 1 (.slice fa n0 fc) n0 (fs.map (.int .i64))) := ho6
      have HZ6 : Hid (fa.isNone = a0.isNone) := hz6
      have HI6 : Hid (Ins w6 a0 a1 a2 a3 a4 n0 n1 n2 n3 n4 fs ns us ls hs fst lst a sn ss vs) := HI5.out.grow hb6
      clear ho6 hz6
      go_wp2_with fail
      refine (cloneInts_any a1 n1 c1 ns w6 HI6.out.v1 p1 HI6.out.z1).mono ?_
      rintro e w7 ⟨na, nc, rfl, ho7, hb7, hz7⟩
      have HO7 : Hid (w7.ownsRow w6.heap.size 3 1 (.slice na n1 nc) n1 (ns.map (.int .i64))) := ho7
      have HZ7 : Hid (na.isNone = a1.isNone) := hz7
      have HI7 : Hid (Ins w7 a0 a1 a2 a3 a4 n0 n1 n2 n3 n4 fs ns us ls hs fst lst a sn ss vs) := HI6.out.grow hb7
      clear ho7 hz7
      go_wp2_with fail
      refine (cloneI32_any a2 n2 c2 us w7 HI7.out.v2 p2 HI7.out.z2).mono ?_
      rintro e w8 ⟨ua, uc, rfl, ho8, hb8, hz8⟩
      have HO8 : Hid (w8.ownsRow w7.heap.size 21 1 (.slice ua n2 uc) n2 (us.map (.int .i32))) := ho8
      have HZ8 : Hid (ua.isNone = a2.isNone) := hz8
      have HI8 : Hid (Ins w8 a0 a1 a2 a3 a4 n0 n1 n2 n3 n4 fs ns us ls hs fst lst a sn ss vs) := HI7.out.grow hb8
      clear ho8 hz8
      go_wp2_with fail
      refine (cloneF_any a3 n3 c3 ls w8 HI8.out.v3 p3 HI8.out.z3).mono ?_
      rintro e w9 ⟨la, lc, rfl, ho9, hb9, hz9⟩
      have HO9 : Hid (w9.ownsRow w8.heap.size 22 1 (.slice la n3 lc) n3 (ls.map (.float .f64))) := ho9
      have HI9 : Hid (Ins w9 a0 a1 a2 a3 a4 n0 n1 n2 n3 n4 fs ns us ls hs fst lst a sn ss vs) := HI8.out.grow hb9
      clear ho9 hz9
      go_wp2_with fail
      refine (cloneF_any a4 n4 c4 hs w9 HI9.out.v4 p4 HI9.out.z4).mono ?_
      rintro e wA ⟨sa, sc, rfl, hoA, hbA, hzA⟩
      have HOA : Hid (wA.ownsRow w9.heap.size 22 1 (.slice sa n4 sc) n4 (hs.map (.float .f64))) := hoA
      clear hoA hzA
      go_wp2_with fail
      refine (new_any fa n0 fc na n1 nc ua n2 uc la n3 lc sa n4 sc bp wA).mono ?_
      rintro e wB ⟨rfl, hwB⟩
      have HS0 := fun nc' => start0_of (bp := bp) (tick := tick) (na := na) (n1 := n1) (nc := nc') (V := V) (Z := Z) (B := B) (S := S) HO6.out hb7 hb8 HO8.out HO9.out hb9 HOA.out hbA p0 p2 p5 HP6.out HI5.out.fit HI5.out.f0 HI5.out.l1 nle Hnl.out HD.out
      have HS : Hid (Start0 ⟨wB, w8.heap.size, wA.heap.size + 1, wA.heap.size, tick, fst, lst, none, sn, 0, V, Z, B, S, fa, n0, fc, na, n1, nc, ua, n2, uc, bp⟩ la n3 lc sa n4 sc ls hs n fs ss) := by rw [hwB]; exact HS0 nc
      have hbB : Below wA.heap.size wA wB := by rw [hwB]; exact (Below.refl _ _).alloc (Nat.le_refl _) _
      have sB : wB.heap.size = wA.heap.size + 1 := by rw [hwB]; simp
      clear hwB HS0
      have s5 := hB5.size
      have s6 := hb6.size
      have s7 := hb7.size
      have s8 := hb8.size
      have s9 := hb9.size
      have sA := hbA.size
      have HT : Hid (Trio w8 fa n0 fs na n1 ns ua n2 us) := ⟨((Vw.of_own 0 HO6.out).grow hb7).grow hb8, (Vw.of_own 0 HO7.out).grow hb8, Vw.of_own 0 HO8.out⟩
      have HB8 : Hid (Below w.heap.size w w8) := ((hB5.trans (hb6.mono s5)).trans (hb7.mono (by omega))).trans (hb8.mono (by omega))
      have HB8B : Hid (Below w8.heap.size w8 wB) := (hb9.trans (hbA.mono s9)).trans (hbB.mono (by omega))
      have HBx8 : Hid (Boxes w.heap.size tick fst lst a sn c V Z B S w8) := ((HBx5.out.grow hb6).grow hb7).grow hb8
      clear HO6 HO7 HO8 HO9 HOA HI5 HI6 HI7 HI9 HBx5 hB5 hb6 hb7 hb8 hb9 hbA s5 s6 s7 s8 s9
      have HIB : Hid (Ins wB a0 a1 a2 a3 a4 n0 n1 n2 n3 n4 fs ns us ls hs fst lst a sn ss vs) := HI8.out.grow HB8B.out
      have HBxB : Hid (Boxes w.heap.size tick fst lst a sn c V Z B S wB) := HBx8.out.grow HB8B.out
      clear hbB
      obtain ⟨g0, g1, g2, g3, q0, q1, q2, q3⟩ := HBxB.out
      go_upto_region 9 with fail
      go_cut [] (fun wx => Left9 ⟨wB, w8.heap.size, wA.heap.size + 1, wA.heap.size, tick, fst, lst, none, sn, 0, V, Z, B, S, fa, n0, fc, na, n1, nc, ua, n2, uc, bp⟩ n fs ss vs wx)
      case first =>
        have HVS : Hid (VS wB.drew a sn ss vs) := HIB.out.g.kept (fun _ _ _ _ => rfl) (fun _ _ _ _ _ _ => rfl)
        go_region_with (first
          | (go_at_call 18; refine (grid_any tick fst lst a sn c ss vs _ HVS.out p5 HP6.out HIB.out.gz HIB.out.gv).mono ?_; rintro e wG ⟨a', c', ss', rfl, hG, hbG⟩; have hbG' : Below wB.heap.size wB wG := ⟨hbG.os, hbG.tape, hbG.output, hbG.size, hbG.block⟩; have HG : Hid (GridOk (wA.heap.size + 1) wG a' sn ss ss' vs) := hG.mono (show wA.heap.size + 1 ≤ wB.heap.size by omega); clear hG hbG; have q0' := (HBxB.out.grow hbG').q0; have q1' := (HBxB.out.grow hbG').q1; have q2' := (HBxB.out.grow hbG').q2; have q3' := (HBxB.out.grow hbG').q3)
          | (go_at_call 19; refine (config_any V Z B S _).mono ?_; rintro e wH ⟨rfl, hbH⟩; have HG2 : Hid (GridOk (wA.heap.size + 1) wH a' sn ss ss' vs) := HG.out.kept (fun b _ h1 => hbH.block b h1); have HBH : Hid (Below wB.heap.size wB wH) := hbG'.trans (hbH.mono hbG'.size); clear hbH)
          | (go_at_call 17; refine (zp_at _ HS.out _ HBH.out HG2.out).mono ?_; rintro e wI ⟨rfl, hL⟩))
        all_goals (try go_wp2_with fail)
        all_goals go_meet
        all_goals exact hL
      case rest =>
        obtain ⟨la', lc', sa', sc', xl, xs, hbX, him, hl, hs', hsum⟩ := hcut
        have hX : Below w8.heap.size w8 wc := HB8B.out.trans hbX
        have HTX : Hid (Trio wc fa n0 fs na n1 ns ua n2 us) := HT.out.grow hX
        have HIX : Hid (Ins wc a0 a1 a2 a3 a4 n0 n1 n2 n3 n4 fs ns us ls hs fst lst a sn ss vs) := HI8.out.grow hX
        have HBxX : Hid (Boxes w.heap.size tick fst lst a sn c V Z B S wc) := HBx8.out.grow hX
        have HBX : Hid (Below w.heap.size w wc) := HB8.out.trans (hX.mono HB8.out.size)
        have HL : Hid (wc.ownsRow w8.heap.size 22 1 (.slice la' n lc') n (flts xl)) := hl
        have HSh : Hid (wc.ownsRow w8.heap.size 22 1 (.slice sa' n sc') n (flts xs)) := hs'
        have HSum : Hid (∀ j, j < n → Sums ShareOf (Hit n2 fs) fst tick V Z B S ss vs j sn (xl.getD j 0) (xs.getD j 0)) := hsum
        have hF := fields_any wc him
        unfold ImCells at hF
        clear hbX him hl hs' hsum hX HT HI8 HBx8 HB8 HB8B HIB HBxB HS g0 g1 g2 g3 q0 q1 q2 q3 sA sB
        have HF : Hid (Calls Try.prog 20 #[.pointer (some ⟨wA.heap.size, 0, none⟩)] wc fun e w' => e = .returned (.tuple #[.slice fa n0 fc, .slice na n1 nc, .slice ua n2 uc, .slice la' n lc', .slice sa' n sc', .bool bp]) ∧ w'.heap = wc.heap ∧ Below wc.heap.size wc w') := hF
        clear hF
        go_wp2_with fail
        refine HF.out.mono ?_
        rintro e wF ⟨rfl, _, hbF⟩
        have sF := hbF.size
        clear HF
        go_wp2_with fail
        refine (sameInts_any fa a0 n0 fc c0 fs wF (HTX.out.f.grow hbF) (HIX.out.v0.grow hbF) HZ6.out p0).mono ?_
        rintro e wG ⟨rfl, _, hbG⟩
        have hbG' : Below wc.heap.size wc wG := hbF.trans (hbG.mono sF)
        clear hbG hbF sF
        go_wp2_with fail
        refine (sameInts_any na a1 n1 nc c1 ns wG (HTX.out.n.grow hbG') (HIX.out.v1.grow hbG') HZ7.out p1).mono ?_
        rintro e wH ⟨rfl, _, hbH⟩
        have hbH' : Below wc.heap.size wc wH := hbG'.trans (hbH.mono hbG'.size)
        clear hbH hbG'
        go_wp2_with fail
        refine (sameI32_any ua a2 n2 uc c2 us wH (HTX.out.u.grow hbH') (HIX.out.v2.grow hbH') HZ8.out p2).mono ?_
        rintro e wI ⟨rfl, _, hbI⟩
        have hbI' : Below wc.heap.size wc wI := hbH'.trans (hbI.mono hbH'.size)
        clear hbI hbH'
        go_wp2_with fail
        go_loopg [26] n (fun gk s26 wr => ∃ (j : Nat), s26 = .int .i64 (j : Int) ∧ j ≤ n ∧ gk = n - j ∧ Below wc.heap.size wc wr)
        case atStart => exact ⟨0, rfl, Nat.zero_le _, rfl, hbI'⟩
        case round =>
          clear hbI'
          obtain ⟨j, rfl, hj, rfl, hbr⟩ := hrel
          by_cases hlt : j < n
          · obtain ⟨gl, hgl⟩ := own_some HL.out (by omega)
            subst la'
            obtain ⟨gs, hgs⟩ := own_some HSh.out (by omega)
            subst sa'
            have hj0 : (j : Int) < (n : Int) := by omega
            obtain ⟨g0, g1, g2, g3, q0, q1, q2, q3⟩ := HBxX.out.grow hbr
            have HC : Hid (Calls Try.prog 23 #[.slice a0 n0 c0, .slice a2 n2 c2, .agg #[.int .i64 tick, .int .i64 fst, .int .i64 lst, .slice a sn c], .agg #[.float .f64 V, .float .f64 Z, .float .f64 B, .float .f64 S], .int .i64 (j : Int)] wr
              (ModelPost (Sums PickOf (Hit n2 fs) fst tick V Z B S ss vs j sn) wr)) :=
              model_any a0 n0 c0 fs a2 n2 c2 n tick fst lst a sn c ss vs V Z B S wr (HIX.out.v0.grow hbr) (HIX.out.grow hbr).g p0 p2 p5 HP6.out HIX.out.fit HIX.out.f0 HIX.out.l1 Hnl.out HD.out j hlt
            go_wp2_with fail
            refine HC.out.mono ?_
            rintro e wm ⟨L, S1, rfl, hsum, hbm⟩
            have hbm' : Below wc.heap.size wc wm := hbr.trans (hbm.mono hbr.size)
            obtain ⟨e1, e2⟩ := (HSum.out j hlt).eqv hsum
            have el : wm.cell? ⟨gl, j, none⟩ = some (.float .f64 (xl.getD j 0)) := own_at (own_kept HL.out hbm') hlt
            have es : wm.cell? ⟨gs, j, none⟩ = some (.float .f64 (xs.getD j 0)) := own_at (own_kept HSh.out hbm') hlt
            obtain ⟨X, hX⟩ : ∃ X, xl.getD j 0 = X := ⟨_, rfl⟩
            obtain ⟨Y, hY⟩ : ∃ Y, xs.getD j 0 = Y := ⟨_, rfl⟩
            rw [hX] at e1 el
            rw [hY] at e2 es
            have E1 : Hid (Eqv X L) := e1
            have E2 : Hid (Eqv Y S1) := e2
            clear HC hsum e1 e2 hX hY hbr hbm g0 g1 g2 g3 q0 q1 q2 q3
            go_wp2_with fail
            refine (same_yes E1.out wm).mono ?_
            rintro e wn ⟨rfl, hwn⟩
            subst wn
            go_wp2_with fail
            refine (same_yes E2.out wm).mono ?_
            rintro e wn ⟨rfl, hwn⟩
            subst wn
            go_wp2_with fail
            go_roundg (n - (j + 1))
            case measure => omega
            case rel => exact ⟨j + 1, by go_num, hlt, rfl, hbm'⟩
          · go_wp2
            go_ret
            exact ⟨rfl, HBX.out.trans (hbr.mono HBX.out.size)⟩
end Go.Proofs.Qxb6603396a
