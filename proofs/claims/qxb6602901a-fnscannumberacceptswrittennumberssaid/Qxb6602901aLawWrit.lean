import Derived.Test.Qxb6602901aLawAuto
import Derived.Test.Qxb6602901aUint
import Derived.Laws.AppendOwnNone
namespace Go.Proofs.Qxb6602901a
open Go.RowKit

theorem zz11_yes (n : Int) (hf : Bool) (f : Int) (he ue ps : Bool) (x : Int) (a : Option Addr) (L cap : Nat) (w : World) (h : L ≤ 1048576) :
    Calls Try.prog 11 #[.int .i64 n, .bool hf, .int .u64 f, .bool he, .bool ue, .bool ps, .int .i64 x, .slice a L cap] w fun e w' => e = .returned (.bool true) ∧ w' = w := by
  go_enter Try.func11, Try.ntmps11
  go_wp2
  go_ret
  exact ⟨rfl, rfl⟩
theorem zz11_no (n : Int) (hf : Bool) (f : Int) (he ue ps : Bool) (x : Int) (a : Option Addr) (L cap : Nat) (w : World) (h : 1048576 < L) :
    Calls Try.prog 11 #[.int .i64 n, .bool hf, .int .u64 f, .bool he, .bool ue, .bool ps, .int .i64 x, .slice a L cap] w fun e w' => e = .returned (.bool false) ∧ w' = w := by
  go_enter Try.func11, Try.ntmps11
  go_wp2
  go_ret
  exact ⟨rfl, rfl⟩

theorem IntText.pos {n : Int} {X : List Nat} (h : IntText n X) : 1 ≤ X.length := by
  obtain ⟨D, hD, rfl⟩ := h
  have := List.length_pos_iff.2 hD.ne
  split <;> simp <;> omega

/-- The tail may follow. -/
def Good (n : Int) (hf he : Bool) (T : List Nat) : Prop :=
  T ≠ [] → (dig (T.getD 0 0) = true → n = 0 ∧ hf = false ∧ he = false) ∧ (T.getD 0 0 = 46 → hf = true ∨ he = true) ∧ (T.getD 0 0 = 101 ∨ T.getD 0 0 = 69 → he = true)

/-- The state in which the number's text ends. -/
def fin (n : Int) (hf he : Bool) : Nat := if he = true then 8 else if hf = true then 5 else if n = 0 then 2 else 3
theorem acc_fin (n : Int) (hf he : Bool) : acc (fin n hf he) = true := by
  unfold fin
  repeat' split
  all_goals rfl
theorem nst_fin6 (n : Int) (hf : Bool) (c : Nat) (hc : c = 101 ∨ c = 69) : nst (fin n hf false) c = 6 := by
  have hd : dig c = false := by rcases hc with e | e <;> rw [e] <;> decide
  have h46 : c ≠ 46 := by omega
  unfold fin
  cases hf with
  | true => simp [nst, hd, hc]
  | false =>
    by_cases hn : n = 0
    · simp [nst, hn, h46, hc]
    · simp [nst, hn, hd, h46, hc]
theorem good_stops {n : Int} {hf he : Bool} {T : List Nat} (h : Good n hf he T) : Stops (fin n hf he) T := by
  intro hT
  obtain ⟨h1, h2, h3⟩ := h hT
  generalize T.getD 0 0 = c at h1 h2 h3
  unfold fin
  cases he with
  | true =>
    have hd : dig c = false := by
      cases hd : dig c with
      | false => rfl
      | true => have := (h1 hd).2.2; cases this
    simp [nst, hd]
  | false =>
    have h3' : c ≠ 101 ∧ c ≠ 69 := ⟨(fun e => by have := h3 (.inl e); cases this), (fun e => by have := h3 (.inr e); cases this)⟩
    cases hf with
    | true =>
      have hd : dig c = false := by
        cases hd : dig c with
        | false => rfl
        | true => have := (h1 hd).2.1; cases this
      simp [nst, hd, h3'.1, h3'.2]
    | false =>
      have h46 : c ≠ 46 := fun e => by rcases h2 e with h | h <;> cases h
      by_cases hn : n = 0
      · simp [hn, nst, h46, h3'.1, h3'.2]
      · have hd : dig c = false := by
          cases hd : dig c with
          | false => rfl
          | true => exact absurd (h1 hd).1 hn
        simp [hn, nst, hd, h46, h3'.1, h3'.2]

/-- What holds of the text while it is made. -/
structure Made (base : Nat) (w1 w : World) (ao : Option Addr) (N cp : Nat) (W : List Nat) : Prop where
  len : N = W.length
  own : w.ownsRow base 5 1 (.slice ao N cp) N (octs W)
  bel : Below base w1 w
  base : base ≤ w1.heap.size
  byte : ∀ z ∈ W, z < 256

theorem Made.size {base : Nat} {w1 w : World} {ao : Option Addr} {N cp : Nat} {W : List Nat} (h : Made base w1 w ao N cp W) : base ≤ w.heap.size := Nat.le_trans h.base h.bel.size

theorem Made.snoc {base : Nat} {w1 w w2 : World} {ao : Option Addr} {N cp : Nat} {W : List Nat} (h : Made base w1 w ao N cp W) {o : Obj} {g cap c : Nat} (hc : c < 256)
    (hown : w2.ownsRow base 5 1 (.slice (some ⟨g, 0, none⟩) (N + 1) cap) (N + 1) (octs W ++ [.int .u8 (c : Int)])) (hgrow : (w.alloc o).grownBy w2 (Value.slice ao N cp).ownBlock) :
    Made base w1 w2 (some ⟨g, 0, none⟩) (N + 1) cap (W ++ [c]) :=
  ⟨by rw [h.len]; simp, own_snoc hown, (h.bel.alloc h.size _).grown hgrow (by have := h.size; simp; omega) (fun k hk => (h.own.lt k hk).1), h.base, fun z hz => by
    rcases List.mem_append.1 hz with h' | h'
    · exact h.byte z h'
    · simp at h'; omega⟩

theorem Made.app {base : Nat} {w1 w w2 : World} {ao : Option Addr} {N cp : Nat} {W : List Nat} (h : Made base w1 w ao N cp W) {ao2 : Option Addr} {N2 cp2 : Nat} {D : List Nat} (hN : N2 = (W ++ D).length)
    (hown : w2.ownsRow base 5 1 (.slice ao2 N2 cp2) N2 (octs (W ++ D))) (hbel : Below base w w2) (hD : ∀ z ∈ D, z < 256) : Made base w1 w2 ao2 N2 cp2 (W ++ D) :=
  ⟨hN, hown, h.bel.trans hbel, h.base, fun z hz => by
    rcases List.mem_append.1 hz with h' | h'
    · exact h.byte z h'
    · exact hD z h'⟩

set_option maxRecDepth 100000 in
set_option maxHeartbeats 4000000 in
theorem law4 {w : World} {a : Option Addr} {L cap : Nat} {T : List Nat} (hv : View w a L T) (ha : a = none → L = 0) (n : Int) (hf : Bool) (f : Nat) (he ue ps : Bool) (x : Int)
    (hn0 : -9223372036854775808 ≤ n) (hn1 : n ≤ 9223372036854775807) (hf64 : f < 18446744073709551616) (hx0 : -9223372036854775808 ≤ x) (hx1 : x ≤ 9223372036854775807) :
    Calls Try.prog 4 #[.int .i64 n, .bool hf, .int .u64 (f : Int), .bool he, .bool ue, .bool ps, .int .i64 x, .slice a L cap] w (Fine w) := by
  by_cases h0 : L ≤ 1048576
  · go_enter Try.func4, Try.ntmps4
    go_wp2_with fail
    refine (zz11_yes _ _ _ _ _ _ _ _ _ _ _ h0).mono ?_
    rintro e w' ⟨rfl, hw'⟩
    subst w'
    go_upto_if 37 with fail
    go_cut [17] (fun s17 wx => wx = w ∧ Good n hf he T)
    case first =>
      by_cases hL : L = 0
      · have hT : T = [] := List.eq_nil_of_length_eq_zero (by rw [hv.len, hL])
        have HG : Hid (Good n hf he T) := fun h => absurd hT h
        subst hL
        clear hT hv ha
        go_wp2_with fail
        go_meet
        exact ⟨rfl, HG.out⟩
      · obtain ⟨b, off, rfl, hc⟩ := hv.cell hL
        have hc0 := hc 0 (by omega)
        obtain ⟨c, hcc⟩ : ∃ c : Nat, c = T.getD 0 0 := ⟨_, rfl⟩
        rw [← hcc, Nat.add_zero] at hc0
        have hpos : (0 : Int) < (L : Int) := by omega
        have Hcc : Hid (c = T.getD 0 0) := hcc
        clear hc hcc hL hv ha
        cases hd : dig c with
        | true =>
          have Hd : Hid (dig c = true) := hd
          have t46 : ((c : Int) == 46) = false := by rw [beq_eq_false_iff_ne]; intro e; rw [show c = 46 by omega] at hd; cases hd
          have t101 : ((c : Int) == 101) = false := by rw [beq_eq_false_iff_ne]; intro e; rw [show c = 101 by omega] at hd; cases hd
          have t69 : ((c : Int) == 69) = false := by rw [beq_eq_false_iff_ne]; intro e; rw [show c = 69 by omega] at hd; cases hd
          have Hn : Hid (c ≠ 46 ∧ c ≠ 101 ∧ c ≠ 69) := by
            refine ⟨fun e => ?_, fun e => ?_, fun e => ?_⟩ <;> (rw [e] at hd; cases hd)
          clear hd
          by_cases hn : n = 0
          · subst hn
            cases hf with
            | true =>
              go_wp2_with fail
              refine (dig12 c _ Hd.out w).mono ?_
              rintro e w' ⟨rfl, hw'⟩
              subst w'
              go_wp2
              go_ret
              exact ⟨rfl, Below.refl _ _⟩
            | false =>
              cases he with
              | true =>
                go_wp2_with fail
                refine (dig12 c _ Hd.out w).mono ?_
                rintro e w' ⟨rfl, hw'⟩
                subst w'
                go_wp2
                go_ret
                exact ⟨rfl, Below.refl _ _⟩
              | false =>
                go_wp2_with fail
                refine (dig12 c _ Hd.out w).mono ?_
                rintro e w' ⟨rfl, hw'⟩
                subst w'
                go_wp2_with fail
                go_meet
                refine ⟨rfl, fun _ => ?_⟩
                rw [← Hcc.out]
                exact ⟨fun _ => ⟨rfl, rfl, rfl⟩, fun e => absurd e Hn.out.1, fun e => by rcases e with e | e; (· exact absurd e Hn.out.2.1); (· exact absurd e Hn.out.2.2)⟩
          · have tn : (n != 0) = true := by rw [bne_iff_ne]; exact hn
            clear hn
            go_wp2_with fail
            refine (dig12 c _ Hd.out w).mono ?_
            rintro e w' ⟨rfl, hw'⟩
            subst w'
            go_wp2
            go_ret
            exact ⟨rfl, Below.refl _ _⟩
        | false =>
          have Hd : Hid (dig c = false) := hd
          clear hd
          by_cases h46 : c = 46
          · have t46 : ((c : Int) == 46) = true := by rw [beq_iff_eq]; omega
            have t101 : ((c : Int) == 101) = false := by rw [beq_eq_false_iff_ne]; omega
            have t69 : ((c : Int) == 69) = false := by rw [beq_eq_false_iff_ne]; omega
            have H46 : Hid (c = 46) := h46
            clear h46
            cases hf with
            | true =>
              go_wp2_with fail
              refine (dig12 c _ Hd.out w).mono ?_
              rintro e w' ⟨rfl, hw'⟩
              subst w'
              go_wp2_with fail
              go_meet
              refine ⟨rfl, fun _ => ?_⟩
              rw [← Hcc.out]
              exact ⟨(fun h => by rw [Hd.out] at h; cases h), fun _ => .inl rfl, fun e => by have := H46.out; omega⟩
            | false =>
              cases he with
              | true =>
                go_wp2_with fail
                refine (dig12 c _ Hd.out w).mono ?_
                rintro e w' ⟨rfl, hw'⟩
                subst w'
                go_wp2_with fail
                go_meet
                refine ⟨rfl, fun _ => ?_⟩
                rw [← Hcc.out]
                exact ⟨(fun h => by rw [Hd.out] at h; cases h), fun _ => .inr rfl, fun _ => rfl⟩
              | false =>
                go_wp2_with fail
                refine (dig12 c _ Hd.out w).mono ?_
                rintro e w' ⟨rfl, hw'⟩
                subst w'
                go_wp2
                go_ret
                exact ⟨rfl, Below.refl _ _⟩
          · have t46 : ((c : Int) == 46) = false := by rw [beq_eq_false_iff_ne]; omega
            have H46 : Hid (¬ c = 46) := h46
            by_cases h101 : c = 101
            · have t101 : ((c : Int) == 101) = true := by rw [beq_iff_eq]; omega
              have H101 : Hid (c = 101) := h101
              clear h101 h46
              cases he with
              | true =>
                go_wp2_with fail
                refine (dig12 c _ Hd.out w).mono ?_
                rintro e w' ⟨rfl, hw'⟩
                subst w'
                go_wp2_with fail
                go_meet
                refine ⟨rfl, fun _ => ?_⟩
                rw [← Hcc.out]
                exact ⟨(fun h => by rw [Hd.out] at h; cases h), fun e => absurd e H46.out, fun _ => rfl⟩
              | false =>
                go_wp2_with fail
                refine (dig12 c _ Hd.out w).mono ?_
                rintro e w' ⟨rfl, hw'⟩
                subst w'
                go_wp2
                go_ret
                exact ⟨rfl, Below.refl _ _⟩
            · have t101 : ((c : Int) == 101) = false := by rw [beq_eq_false_iff_ne]; omega
              have H101 : Hid (¬ c = 101) := h101
              by_cases h69 : c = 69
              · have t69 : ((c : Int) == 69) = true := by rw [beq_iff_eq]; omega
                have H69 : Hid (c = 69) := h69
                clear h69 h46 h101
                cases he with
                | true =>
                  go_wp2_with fail
                  refine (dig12 c _ Hd.out w).mono ?_
                  rintro e w' ⟨rfl, hw'⟩
                  subst w'
                  go_wp2_with fail
                  go_meet
                  refine ⟨rfl, fun _ => ?_⟩
                  rw [← Hcc.out]
                  exact ⟨(fun h => by rw [Hd.out] at h; cases h), fun e => absurd e H46.out, fun _ => rfl⟩
                | false =>
                  go_wp2_with fail
                  refine (dig12 c _ Hd.out w).mono ?_
                  rintro e w' ⟨rfl, hw'⟩
                  subst w'
                  go_wp2
                  go_ret
                  exact ⟨rfl, Below.refl _ _⟩
              · have t69 : ((c : Int) == 69) = false := by rw [beq_eq_false_iff_ne]; omega
                have H69 : Hid (¬ c = 69) := h69
                clear h46 h101 h69
                go_wp2_with fail
                refine (dig12 c _ Hd.out w).mono ?_
                rintro e w' ⟨rfl, hw'⟩
                subst w'
                go_wp2_with fail
                go_meet
                refine ⟨rfl, fun _ => ?_⟩
                rw [← Hcc.out]
                exact ⟨(fun h => by rw [Hd.out] at h; cases h), fun e => absurd e H46.out, fun e => by rcases e with e | e; (· exact absurd e H101.out); (· exact absurd e H69.out)⟩
    case rest =>
    obtain ⟨hwc, hG⟩ := hcut
    subst wc
    have HG : Hid (Good n hf he T) := hG
    clear hG
    obtain ⟨i0, hi, hz0, hz1, hz2⟩ := info_parts Try.info5
    have h46 : ∀ u ∈ [Value.int .u8 46], u.oneCell' = true := by intro u hu; simp at hu; subst hu; rfl
    have h69 : ∀ u ∈ [Value.int .u8 69], u.oneCell' = true := by intro u hu; simp at hu; subst hu; rfl
    have h101 : ∀ u ∈ [Value.int .u8 101], u.oneCell' = true := by intro u hu; simp at hu; subst hu; rfl
    have h43 : ∀ u ∈ [Value.int .u8 43], u.oneCell' = true := by intro u hu; simp at hu; subst hu; rfl
    go_wp2_with fail
    refine (clone_any a L cap T w hv h0 ha).mono ?_
    rintro e w1 ⟨at1, ct1, rfl, hownT, hbelT⟩
    have HT : Hid (w1.ownsRow w.heap.size 5 1 (.slice at1 L ct1) L (octs T)) := hownT
    have HbT : Hid (∀ z ∈ T, z < 256) := hv.byte
    have HlT : Hid (T.length = L) := hv.len
    clear hownT hv ha
    have hml : 72 + L ≤ maxLen := by unfold maxLen; omega
    have hb2 : i0.bytes * (72 + L) ≤ 281474976710656 := by rw [hz2]; omega
    go_wp2_with (at_make; refine wpList_make_own _ rfl _ _ 22 rfl w1.heap.size 5 i0 (.int .u8 0) 1 Try.underlying22 hi hz0 hz1 _ _ _ (72 + L) rfl rfl (by omega) hb2 hml (Nat.le_refl _) ?_)
    intro w2 hown2 hgrow2
    have hM0 : Made w1.heap.size w1 w2 (some ⟨w1.heap.size, 0, none⟩) 0 (72 + L) [] := ⟨rfl, hown2, (Below.refl _ _).grown hgrow2 (Nat.le_refl _) (by simp), Nat.le_refl _, by simp⟩
    clear hown2 hgrow2 hml hb2
    go_wp2_with fail
    refine (int_at _ _ _ [] n w2 w1.heap.size hM0.len hM0.own hn0 hn1 (by simp) hM0.size).mono ?_
    rintro e w3 ⟨X, hX, ao3, cp3, N3, rfl, hN3, hown3, hbel3⟩
    have hM3 : Made w1.heap.size w1 w3 ao3 N3 cp3 X := by
      have := hM0.app hN3 hown3 hbel3 hX.byte
      rwa [List.nil_append] at this
    have HX : Hid (Tx (if n = 0 then 2 else 3) X ∧ N3 ≤ 21 ∧ 1 ≤ N3) := ⟨Tx.int hX, by rw [hM3.len]; exact hX.len, by rw [hM3.len]; exact hX.pos⟩
    have HM3 : Hid (Made w1.heap.size w1 w3 ao3 N3 cp3 X) := hM3
    clear hX hN3 hown3 hbel3 hM0 hM3
    go_upto_if 82 with fail
    go_cut [18] (fun s18 wx => ∃ ao N cp W, s18 = .slice ao N cp ∧ 1 ≤ N ∧ N ≤ 42 ∧ Made w1.heap.size w1 wx ao N cp W ∧ Tx (fin n hf false) W)
    case first =>
      cases hf with
      | false =>
        go_wp2_with fail
        go_meet
        exact ⟨ao3, N3, cp3, X, rfl, HX.out.2.2, by have := HX.out.2.1; omega, HM3.out, HX.out.1⟩
      | true =>
        have hM3 := HM3.out
        have hN := HX.out.2.1
        have hml : N3 + 1 ≤ maxLen := by unfold maxLen; omega
        have hbs : w1.heap.size ≤ (w3.alloc (.cells #[.int .u8 46] 5)).heap.size := by have := hM3.size; simp; omega
        have hown := hM3.own
        clear hM3
        go_wp2_with (at_builtin; refine wpList_append_lies _ rfl _ _ 22 rfl w1.heap.size 5 i0 (.int .u8 0) 1 1 Try.underlying22 hi hz0 hz1 hz2 rfl (by decide) _ N3 (octs X) rfl (hown.alloc _) _ 1 1 [.int .u8 46] rfl rfl (cell_one_new _ _ _) h46 (by decide) hml (by omega) hbs (w3.heap.size + 1) (by simp) ?_)
        intro g cap4 w4 hown' hgrow hat hlt
        have hM4 := HM3.out.snoc (c := 46) (by decide) hown' hgrow
        have H4 : Hid (Tx 4 (X ++ [46])) := HX.out.1.snoc (s' := 4) 46 (by by_cases e : n = 0; (· rw [if_pos e]; rfl); (· rw [if_neg e]; decide)) (by decide)
        clear hown' hgrow hat hlt hbs hml hown
        go_wp2_with fail
        refine (uint_at _ _ _ (X ++ [46]) f _ w4 w1.heap.size rfl hM4.len hM4.own hf64 (by rw [← hM4.len]; omega) hM4.size).mono ?_
        rintro e w5 ⟨D, hD, ao5, cp5, N5, rfl, hN5, hown5, hbel5⟩
        have HM5 : Hid (Made w1.heap.size w1 w5 ao5 N5 cp5 (X ++ [46] ++ D)) := hM4.app hN5 hown5 hbel5 hD.byte
        have H5 : Hid (Tx 5 (X ++ [46] ++ D) ∧ N5 ≤ 42 ∧ 1 ≤ N5) := ⟨H4.out.frac hD, by have := hD.len; have := hM4.len; rw [hN5, List.length_append]; omega, by have := hM4.len; rw [hN5, List.length_append]; omega⟩
        clear hD hN5 hown5 hbel5 hM4
        go_wp2_with fail
        go_meet
        exact ⟨ao5, N5, cp5, _, rfl, H5.out.2.2, H5.out.2.1, HM5.out, H5.out.1⟩
    case rest =>
    clear HX HM3
    obtain ⟨ao, N, cp, W, rfl, hN1, hN, hM, hTx⟩ := hcut
    have HM : Hid (Made w1.heap.size w1 wc ao N cp W) := hM
    have HTx : Hid (Tx (fin n hf false) W) := hTx
    clear hM hTx
    go_upto_if 89 with fail
    go_cut [18] (fun s18 wx => ∃ ao N cp W, s18 = .slice ao N cp ∧ 1 ≤ N ∧ N ≤ 72 ∧ Made w1.heap.size w1 wx ao N cp W ∧ Tx (fin n hf he) W)
    case first =>
      obtain ⟨wa, hwa⟩ : ∃ wa : World, wc = wa := ⟨_, rfl⟩
      subst wc
      cases he with
      | false =>
        go_wp2_with fail
        go_meet
        exact ⟨ao, N, cp, W, rfl, hN1, by omega, HM.out, HTx.out⟩
      | true =>
      go_upto_if 90 with fail
      go_cut [18] (fun s18 wx => ∃ ao N cp W, s18 = .slice ao N cp ∧ 1 ≤ N ∧ N ≤ 43 ∧ Made w1.heap.size w1 wx ao N cp W ∧ Tx 6 W)
      case first =>
        have hml : N + 1 ≤ maxLen := by unfold maxLen; omega
        have hown := HM.out.own
        cases ue with
        | true =>
          have hbs : w1.heap.size ≤ (wa.alloc (.cells #[.int .u8 69] 5)).heap.size := by have := HM.out.size; simp; omega
          go_wp2_with (at_builtin; refine wpList_append_lies _ rfl _ _ 22 rfl w1.heap.size 5 i0 (.int .u8 0) 1 1 Try.underlying22 hi hz0 hz1 hz2 rfl (by decide) _ N (octs W) rfl (hown.alloc _) _ 1 1 [.int .u8 69] rfl rfl (cell_one_new _ _ _) h69 (by decide) hml (by omega) hbs (wa.heap.size + 1) (by simp) ?_)
          intro g cap4 w4 hown' hgrow hat hlt
          have HM4 : Hid (Made w1.heap.size w1 w4 (some ⟨g, 0, none⟩) (N + 1) cap4 (W ++ [69])) := HM.out.snoc (c := 69) (by decide) hown' hgrow
          clear hown' hgrow hat hlt hbs hml hown
          go_wp2_with fail
          go_meet
          exact ⟨_, _, _, _, rfl, by omega, by omega, HM4.out, HTx.out.snoc (s' := 6) 69 (nst_fin6 n hf 69 (by decide)) (by decide)⟩
        | false =>
          have hbs : w1.heap.size ≤ (wa.alloc (.cells #[.int .u8 101] 5)).heap.size := by have := HM.out.size; simp; omega
          go_wp2_with (at_builtin; refine wpList_append_lies _ rfl _ _ 22 rfl w1.heap.size 5 i0 (.int .u8 0) 1 1 Try.underlying22 hi hz0 hz1 hz2 rfl (by decide) _ N (octs W) rfl (hown.alloc _) _ 1 1 [.int .u8 101] rfl rfl (cell_one_new _ _ _) h101 (by decide) hml (by omega) hbs (wa.heap.size + 1) (by simp) ?_)
          intro g cap4 w4 hown' hgrow hat hlt
          have HM4 : Hid (Made w1.heap.size w1 w4 (some ⟨g, 0, none⟩) (N + 1) cap4 (W ++ [101])) := HM.out.snoc (c := 101) (by decide) hown' hgrow
          clear hown' hgrow hat hlt hbs hml hown
          go_wp2_with fail
          go_meet
          exact ⟨_, _, _, _, rfl, by omega, by omega, HM4.out, HTx.out.snoc (s' := 6) 101 (nst_fin6 n hf 101 (by decide)) (by decide)⟩
      case rest =>
      clear HM HTx hN hN1
      obtain ⟨ao, N, cp, W, rfl, hN1, hN, hM, hTx⟩ := hcut
      have HM : Hid (Made w1.heap.size w1 wc ao N cp W) := hM
      have HTx : Hid (Tx 6 W) := hTx
      clear hM hTx
      obtain ⟨wa, hwa⟩ : ∃ wa : World, wc = wa := ⟨_, rfl⟩
      subst wc
      go_upto_region 23 with fail
      go_cut [101] (fun sx wx => wx = wa ∧ ∃ b : Bool, sx = .bool b ∧ (b = true → 0 ≤ x))
      case first =>
        cases ps with
        | false =>
          go_wp2_with fail
          go_meet
          exact ⟨rfl, false, rfl, fun h => by cases h⟩
        | true =>
          by_cases hx : 0 ≤ x
          · go_wp2_with fail
            go_meet
            exact ⟨rfl, true, rfl, fun _ => hx⟩
          · have t : decide (0 ≤ x) = false := by simp; omega
            go_wp2_with fail
            go_meet
            exact ⟨rfl, false, rfl, fun h => by cases h⟩
      case rest =>
      obtain ⟨hwc, b5, rfl, hb5⟩ := hcut
      subst wc
      have Hb5 : Hid (b5 = true → 0 ≤ x) := hb5
      clear hb5
      go_upto_if 101 with fail
      go_cut [18] (fun s18 wx => ∃ ao N cp W, s18 = .slice ao N cp ∧ 1 ≤ N ∧ N ≤ 44 ∧ Made w1.heap.size w1 wx ao N cp W ∧ ∃ s, (s = 6 ∨ s = 7) ∧ (s = 7 → 0 ≤ x) ∧ Tx s W)
      case first =>
        cases b5 with
        | false =>
          go_wp2_with fail
          go_meet
          exact ⟨ao, N, cp, W, rfl, hN1, by omega, HM.out, 6, .inl rfl, (fun h => by cases h), HTx.out⟩
        | true =>
          have Hx : Hid (0 ≤ x) := Hb5.out rfl
          have hml : N + 1 ≤ maxLen := by unfold maxLen; omega
          have hown := HM.out.own
          have hbs : w1.heap.size ≤ (wa.alloc (.cells #[.int .u8 43] 5)).heap.size := by have := HM.out.size; simp; omega
          go_wp2_with (at_builtin; refine wpList_append_lies _ rfl _ _ 22 rfl w1.heap.size 5 i0 (.int .u8 0) 1 1 Try.underlying22 hi hz0 hz1 hz2 rfl (by decide) _ N (octs W) rfl (hown.alloc _) _ 1 1 [.int .u8 43] rfl rfl (cell_one_new _ _ _) h43 (by decide) hml (by omega) hbs (wa.heap.size + 1) (by simp) ?_)
          intro g cap4 w4 hown' hgrow hat hlt
          have HM4 : Hid (Made w1.heap.size w1 w4 (some ⟨g, 0, none⟩) (N + 1) cap4 (W ++ [43])) := HM.out.snoc (c := 43) (by decide) hown' hgrow
          clear hown' hgrow hat hlt hbs hml hown
          go_wp2_with fail
          go_meet
          exact ⟨_, _, _, _, rfl, by omega, by omega, HM4.out, 7, .inr rfl, fun _ => Hx.out, HTx.out.snoc (s' := 7) 43 rfl (by decide)⟩
      case rest =>
      clear HM HTx hN hN1 Hb5 b5
      obtain ⟨ao, N, cp, W, rfl, hN1, hN, hM, s, hs, hs7, hTx⟩ := hcut
      go_wp2_with fail
      refine (int_at _ _ _ W x wc w1.heap.size hM.len hM.own hx0 hx1 (by rw [← hM.len]; omega) hM.size).mono ?_
      rintro e w5 ⟨Y, hY, ao5, cp5, N5, rfl, hN5, hown5, hbel5⟩
      have HM5 : Hid (Made w1.heap.size w1 w5 ao5 N5 cp5 (W ++ Y)) := hM.app hN5 hown5 hbel5 hY.byte
      have H5 : Hid (Tx 8 (W ++ Y) ∧ N5 ≤ 72 ∧ 1 ≤ N5) := ⟨hTx.expInt hs hs7 hY, by have := hY.len; have := hM.len; rw [hN5, List.length_append]; omega, by have := hM.len; rw [hN5, List.length_append]; omega⟩
      clear hY hN5 hown5 hbel5 hM hTx hs hs7
      go_wp2_with fail
      go_meet
      exact ⟨ao5, N5, cp5, _, rfl, H5.out.2.2, H5.out.2.1, HM5.out, H5.out.1⟩
    case rest =>
    clear HM HTx hN hN1
    obtain ⟨ao, N, cp, W, rfl, hN1, hN, hM, hTx⟩ := hcut
    have Haut : Hid (aut 0 (W ++ T) = (W.length, fin n hf he)) := hTx.stop (good_stops HG.out)
    have HM : Hid (Made w1.heap.size w1 wc ao N cp W) := hM
    clear hTx hM HG
    obtain ⟨wa, hwa⟩ : ∃ wa : World, wc = wa := ⟨_, rfl⟩
    subst wc
    have hown := HM.out.own
    have hbs : w1.heap.size ≤ wa.heap.size := HM.out.size
    have hVT : View wa at1 L T := view_later HT.out HbT.out HM.out.bel (Nat.le_refl _)
    go_upto_region 27 with fail
    go_cut [18] (fun s18 wx => ∃ ao cp, s18 = .slice ao (N + L) cp ∧ wx.ownsRow w1.heap.size 5 1 (.slice ao (N + L) cp) (N + L) (octs (W ++ T)) ∧ Below w.heap.size w wx)
    case first =>
      have hBw : Below w.heap.size w wa := hbelT.trans (HM.out.bel.mono hbelT.size)
      cases at1 with
      | none =>
        have hL0 : L = 0 := own_nil HT.out rfl
        subst hL0
        have hct : ct1 = 0 := by
          rcases HT.out.2 with ⟨hv, _⟩ | ⟨g, cp, cur, hv, _⟩
          · simpa using hv
          · simp at hv
        subst hct
        have hT0 : T = [] := List.eq_nil_of_length_eq_zero HlT.out
        have HT0 : Hid (T = []) := hT0
        clear hT0 hVT
        go_wp2_with (at_builtin; refine wpList_append_own_none rfl _ _ 22 rfl w1.heap.size 5 i0 1 Try.underlying22 hi _ N (octs W) rfl hown rfl ?_)
        go_wp2_with fail
        go_meet
        exact ⟨ao, cp, rfl, by rw [HT0.out, List.append_nil]; exact HM.out.own, hBw⟩
      | some ad =>
        obtain ⟨gT, cpT, hform⟩ : ∃ gT cpT, ad = ⟨gT, 0, none⟩ ∧ ct1 = cpT := by
          rcases HT.out.2 with ⟨hv, _⟩ | ⟨g, cp, cur, hv, _⟩
          · simp at hv
          · simp only [Value.slice.injEq, Option.some.injEq] at hv
            exact ⟨g, cp, hv.1, hv.2.2⟩
        obtain ⟨rfl, rfl⟩ := hform
        have hnews : ∀ j u, (octs T)[j]? = some u → wa.cell? ((⟨gT, 0, none⟩ : Addr).add j) = some u := by
          intro j u hj
          unfold octs at hj
          rw [List.getElem?_map] at hj
          obtain ⟨z, hz, rfl⟩ := Option.map_eq_some_iff.1 hj
          have hjl : j < T.length := (List.getElem?_eq_some_iff.1 hz).1
          obtain ⟨b, off, e, hc⟩ := hVT.cell (by have := HlT.out; omega)
          simp only [Option.some.injEq, Addr.mk.injEq, and_true] at e
          obtain ⟨rfl, rfl⟩ := e
          rw [Addr.add_lit, hc j (by have := HlT.out; omega), List.getD_eq_getElem?_getD, hz]
          rfl
        have hml : N + L ≤ maxLen := by unfold maxLen; omega
        have hlo : (octs T).length = L * 1 := by have := HlT.out; unfold octs; simp; exact this
        clear hVT
        go_wp2_with (at_builtin; refine wpList_append_own _ rfl _ _ 22 rfl w1.heap.size 5 i0 (.int .u8 0) 1 1 Try.underlying22 hi hz0 hz1 hz2 rfl (by decide) _ N (octs W) rfl hown ⟨gT, 0, none⟩ L _ (octs T) rfl hlo hnews (octs_one T) hml (by omega) hbs ?_)
        intro v' w4 hown' hgrow _
        have hex : ∃ g cap4, v' = .slice (some ⟨g, 0, none⟩) (N + L) cap4 := by
          obtain ⟨g, cap4, hv, _, _⟩ := hown'.form (by omega)
          exact ⟨g, cap4, hv⟩
        obtain ⟨g, cap4, hv⟩ := hex
        rw [hv]
        have hB4 : Below w.heap.size w w4 := hBw.grown hgrow hBw.size (fun k hk => Nat.le_trans hbelT.size (HM.out.own.lt k hk).1)
        have HO : Hid (w4.ownsRow w1.heap.size 5 1 (.slice (some ⟨g, 0, none⟩) (N + L) cap4) (N + L) (octs (W ++ T))) := by rw [octs_app, ← hv]; exact hown'
        clear hv hown' hgrow hnews hown
        go_wp2_with fail
        go_meet
        exact ⟨_, cap4, rfl, HO.out, hB4⟩
    case rest =>
    obtain ⟨ao6, cp6, rfl, hown6, hbel6⟩ := hcut
    have hbWT : ∀ z ∈ W ++ T, z < 256 := by
      intro z hz
      rcases List.mem_append.1 hz with h | h
      · exact HM.out.byte z h
      · exact HbT.out z h
    have hV6 : View wc ao6 (N + L) (W ++ T) := view_later hown6 hbWT (Below.refl wc.heap.size wc) (Nat.le_refl _)
    have HR : Hid (0 + (aut 0 ((W ++ T).drop 0)).1 = N ∧ acc (aut 0 ((W ++ T).drop 0)).2 = true) := by
      show _ ∧ _
      rw [List.drop_zero, Haut.out]
      exact ⟨by rw [HM.out.len]; simp, acc_fin n hf he⟩
    clear hown6 hown HM Haut hVT hbs hbWT
    go_wp2_with fail
    refine (zscan_any hV6 cp6 0 (by omega) (by omega)).mono ?_
    rintro e w' ⟨rfl, hw'⟩
    subst w'
    rw [HR.out.1, HR.out.2]
    have t : ((N : Int) == (N : Int)) = true := by simp
    clear HR hV6
    go_wp2
    go_ret
    exact ⟨rfl, hbel6⟩
  · go_enter Try.func4, Try.ntmps4
    go_wp2_with fail
    refine (zz11_no _ _ _ _ _ _ _ _ _ _ _ (by omega)).mono ?_
    rintro e w' ⟨rfl, hw'⟩
    subst w'
    go_wp2
    go_ret
    exact ⟨rfl, Below.refl _ _⟩
end Go.Proofs.Qxb6602901a
