/-
  The proof of 'Rows.FnPeersMatchesTickModelSaid': the frame as the kit's proof-skeleton.mjs lays it for other rows, turned by hand to eight parameters; the walk out of Qxb6603396aLaw.
-/
import Derived.Test.Qxb6603396aRows
import Derived.Test.Qxb6603396aLaw
import Derived.Test.Qxb6603396aOpen
import Derived.WalkKit
import Derived.ProofKit
import Derived.OpenShut
import Derived.ShutString
import Derived.ChangeOld
import Derived.Below
namespace Go.Proofs.Qxb6603396a.fnPeersMatchesTickModel
open Go.ChangeShapes Go.WideShapes Go.ChangeAt Go.RowKit Go.Joins
set_option linter.unusedVariables false

theorem own : ownKnob Try.prog.godebug = none := by kernel_rfl
theorem laidOut : laidOutB Try.prog = true := by kernel_rfl

set_option maxRecDepth 100000 in
theorem lifted (os : Os) (started : os.Started) (H : Type) (enc : TypeId × Value → H) :
    ReturnsInHanded {} Try.checked os 4 .any (Rows.fnPeersMatchesTickModelSpec.pre6 enc Try.prog Try.f4 Rows.fnPeersMatchesTickModelRow.domain false) (Rows.fnPeersMatchesTickModelSpec.post enc Try.prog Try.f4 false true false false) := by
  refine returnsInHanded_of_change (C := Try.checked) own started (by kernel_rfl) Try.func4
    (ChangeSpec.witness6 (enc := enc) (C := Try.checked) false ⟨#[], #[.slice none 0 0, .slice none 0 0, .slice none 0 0, .slice none 0 0, .slice none 0 0, .bool false, .agg #[.int .i64 0, .int .i64 0, .int .i64 0, .slice none 0 0], .agg #[.float .f64 0, .float .f64 0, .float .f64 0, .float .f64 0]], []⟩ 8 (by kernel_rfl) (by kernel_rfl) (by kernel_rfl) (by kernel_rfl)) ?_
  intro W base args ds gs before hval0 hW hcnd _
  have hval : ∀ (j : Nat) t v, Try.f4.params[j]? = some t → args[j]? = some v → Value.okWide Try.prog W .any base t v := hval0
  have hW' := hW
  obtain ⟨p, q, hA0, hV, rfl, hfz, hnd⟩ := hW
  have hA : DataW.TrodAll enc Try.prog W 0 (fun _ => true) true Try.f4.params.toList args.toList ds p := hA0
  rw [Try.params4] at hA hval
  obtain ⟨v0, vs0, d0, ds0, p0, q0, hargs, rfl, rfl, h0, r0⟩ := trodAll_cons hA
  obtain ⟨v1, vs1, d1, ds1, p1, q1, rfl, rfl, rfl, h1, r1⟩ := trodAll_cons r0
  obtain ⟨v2, vs2, d2, ds2, p2, q2, rfl, rfl, rfl, h2, r2⟩ := trodAll_cons r1
  obtain ⟨v3, vs3, d3, ds3, p3, q3, rfl, rfl, rfl, h3, r3⟩ := trodAll_cons r2
  obtain ⟨v4, vs4, d4, ds4, p4, q4, rfl, rfl, rfl, h4, r4⟩ := trodAll_cons r3
  obtain ⟨v5, vs5, d5, ds5, p5, q5, rfl, rfl, rfl, h5, r5⟩ := trodAll_cons r4
  obtain ⟨v6, vs6, d6, ds6, p6, q6, rfl, rfl, rfl, h6, r6⟩ := trodAll_cons r5
  obtain ⟨v7, vs7, d7, ds7, p7, q7, rfl, rfl, rfl, h7, r7⟩ := trodAll_cons r6
  obtain ⟨rfl, rfl, rfl⟩ := trodAll_nil r7
  obtain rfl : args = #[v0, v1, v2, v3, v4, v5, v6, v7] := by cases args; simp_all
  obtain ⟨rfl, rfl⟩ := trodVars_none hV
  have k0 := h0
  have k1 := h1
  have k2 := h2
  have k3 := h3
  have k4 := h4
  have k6 := h6
  have k7 := h7
  have lt0 : ∀ x ∈ p0, x.block < W.heap.size := by obtain ⟨m, hm⟩ := k0; exact DataW.trod_lt m _ _ _ hm
  have lt1 : ∀ x ∈ p1, x.block < W.heap.size := by obtain ⟨m, hm⟩ := k1; exact DataW.trod_lt m _ _ _ hm
  have lt2 : ∀ x ∈ p2, x.block < W.heap.size := by obtain ⟨m, hm⟩ := k2; exact DataW.trod_lt m _ _ _ hm
  have lt3 : ∀ x ∈ p3, x.block < W.heap.size := by obtain ⟨m, hm⟩ := k3; exact DataW.trod_lt m _ _ _ hm
  have lt4 : ∀ x ∈ p4, x.block < W.heap.size := by obtain ⟨m, hm⟩ := k4; exact DataW.trod_lt m _ _ _ hm
  have lt6 : ∀ x ∈ p6, x.block < W.heap.size := by obtain ⟨m, hm⟩ := k6; exact DataW.trod_lt m _ _ _ hm
  have lt7 : ∀ x ∈ p7, x.block < W.heap.size := by obtain ⟨m, hm⟩ := k7; exact DataW.trod_lt m _ _ _ hm
  obtain ⟨a0, n0, c0, rfl⟩ := okWide_slice Try.underlying40 (hval 0 40 v0 rfl rfl)
  obtain ⟨a1, n1, c1, rfl⟩ := okWide_slice Try.underlying40 (hval 1 40 v1 rfl rfl)
  obtain ⟨a2, n2, c2, rfl⟩ := okWide_slice Try.underlying41 (hval 2 41 v2 rfl rfl)
  obtain ⟨a3, n3, c3, rfl⟩ := okWide_slice Try.underlying42 (hval 3 42 v3 rfl rfl)
  obtain ⟨a4, n4, c4, rfl⟩ := okWide_slice Try.underlying42 (hval 4 42 v4 rfl rfl)
  obtain ⟨bp, rfl, rfl, rfl⟩ := open_bool Try.underlying4 (hval 5 4 v5 rfl rfl) h5
  obtain ⟨b0, b1, b2, b3, y0, y1, y2, y3, m6, rfl, rfl, rfl, t0, t1, t2, t3⟩ := open_agg4 Try.underlying45 (by kernel_rfl) (by kernel_rfl) (hval 6 45 v6 rfl rfl) h6
  obtain ⟨e0, e1, e2, e3, z0, z1, z2, z3, m7, rfl, rfl, rfl, u0, u1, u2, u3⟩ := open_agg4 Try.underlying47 (by kernel_rfl) (by kernel_rfl) (hval 7 47 v7 rfl rfl) h7
  obtain ⟨tick, ht, _, _⟩ := DataW.trod_int Try.underlying2 t0
  obtain ⟨fst, hf, _, hfw⟩ := DataW.trod_int Try.underlying2 t1
  obtain ⟨lst, hl, _, hlw⟩ := DataW.trod_int Try.underlying2 t2
  obtain ⟨a, sn, c, hs⟩ := slice_form Try.underlying43 t3
  obtain ⟨V, hV⟩ := trod_flt Try.underlying22 u0
  obtain ⟨Z, hZ⟩ := trod_flt Try.underlying22 u1
  obtain ⟨B, hB⟩ := trod_flt Try.underlying22 u2
  obtain ⟨S, hS⟩ := trod_flt Try.underlying22 u3
  simp only [List.cons.injEq, and_true] at ht hf hl hs hV hZ hB hS
  subst ht hf hl hs hV hZ hB hS
  have hin : ∃ fs ns us ls hs ss vs, Ins W a0 a1 a2 a3 a4 n0 n1 n2 n3 n4 fs ns us ls hs fst lst a sn ss vs := by
    obtain ⟨f0, h0⟩ := h0
    obtain ⟨f1, h1⟩ := h1
    obtain ⟨f2, h2⟩ := h2
    obtain ⟨f3, h3⟩ := h3
    obtain ⟨f4, h4⟩ := h4
    obtain ⟨z0, m0, fs, v0⟩ := open_intVw Try.underlying40 Try.underlying3 (by kernel_rfl) h0
    obtain ⟨z1, m1, ns, v1⟩ := open_intVw Try.underlying40 Try.underlying3 (by kernel_rfl) h1
    obtain ⟨z2, m2, us, v2⟩ := open_intVw Try.underlying41 Try.underlying21 (by kernel_rfl) h2
    obtain ⟨z3, m3, ls, v3⟩ := open_fltVw h3
    obtain ⟨z4, m4, hs, v4⟩ := open_fltVw h4
    obtain ⟨gz, gm, ss, vs, g, fit, gv⟩ := open_grid t3
    have bf := bounds_i64 hfw
    have bl := bounds_i64 hlw
    exact ⟨fs, ns, us, ls, hs, ss, vs, v0, v1, v2, v3, v4, z0, z1, z2, z3, z4, m0, m1, m2, m3, m4, g, gz, gm, gv, fit, bf.1, bf.2, bl.1, bl.2⟩
  obtain ⟨fs, ns, us, ls, hs, ss, vs, hin⟩ := hin
  clear hA0 hval0
  refine (law4 W a0 a1 a2 a3 a4 n0 c0 n1 c1 n2 c2 n3 c3 n4 c4 fs ns us ls hs bp tick fst lst a sn c ss vs V Z B S hin).mono fun e W' ⟨he, bel⟩ => ?_
  subst he
  exact ⟨_, rfl, _, _, _, [], _, [], hW', trodAll_mk1 (shut_bool Try.underlying4 _),
    (trodAll_cons_mk (Below.trod laidOut (by kernel_rfl) (of_decide_eq_true (by kernel_rfl)) k0 bel lt0) (trodAll_cons_mk (Below.trod laidOut (by kernel_rfl) (of_decide_eq_true (by kernel_rfl)) k1 bel lt1) (trodAll_cons_mk (Below.trod laidOut (by kernel_rfl) (of_decide_eq_true (by kernel_rfl)) k2 bel lt2)
      (trodAll_cons_mk (Below.trod laidOut (by kernel_rfl) (of_decide_eq_true (by kernel_rfl)) k3 bel lt3) (trodAll_cons_mk (Below.trod laidOut (by kernel_rfl) (of_decide_eq_true (by kernel_rfl)) k4 bel lt4) (trodAll_cons_mk (shut_bool Try.underlying4 _)
        (trodAll_cons_mk (Below.trod laidOut (by kernel_rfl) (of_decide_eq_true (by kernel_rfl)) k6 bel lt6) (trodAll_cons_mk (Below.trod laidOut (by kernel_rfl) (of_decide_eq_true (by kernel_rfl)) k7 bel lt7) trodAll_mk0)))))))),
    rfl, bel.frame _, fun h => by cases h⟩

theorem over : Rows.fnPeersMatchesTickModelRow.holds Try.pinned (OpenSpec.ofChange Rows.fnPeersMatchesTickModelSpec) :=
  OpenClaim.holds_of_wide 4 Try.f4 rfl rfl rfl rfl rfl rfl rfl ⟨rfl, rfl, rfl, rfl, rfl⟩ rfl rfl rfl rfl rfl (by kernel_rfl) Try.func4 (by kernel_rfl)
    (of_decide_eq_true (by kernel_rfl)) (by unfold Func.isWrapper; first | (rw [if_pos (by decide +kernel)]; kernel_rfl) | (rw [if_neg (by decide +kernel)]; exact ⟨rfl, rfl⟩))
    (fun os started H enc _ => lifted os started H enc)

/-- ████ THE STATEMENT ████ -/
theorem proved : Rows.FnPeersMatchesTickModelSaid := over
#print axioms proved
end Go.Proofs.Qxb6603396a.fnPeersMatchesTickModel
