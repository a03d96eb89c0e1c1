import Derived.Test.Qxb6602842aLawTable
import Derived.Test.Qxb6602842aFragPlain
namespace Go.Proofs.Qxb6602842a
open Go.RowKit
theorem zz19_yes (a : Option Addr) (n cap : Nat) (x y : Int) (w : World) (h : n ≤ 1048576) :
    Calls Try.prog 19 #[.slice a n cap, .int .i64 x, .int .i64 y] w fun e w' => e = .returned (.bool true) ∧ w' = w := by
  go_enter Try.func19, Try.ntmps19
  go_wp2
  go_ret
  exact ⟨rfl, rfl⟩
theorem zz19_no (a : Option Addr) (n cap : Nat) (x y : Int) (w : World) (h : 1048576 < n) :
    Calls Try.prog 19 #[.slice a n cap, .int .i64 x, .int .i64 y] w fun e w' => e = .returned (.bool false) ∧ w' = w := by
  go_enter Try.func19, Try.ntmps19
  go_wp2
  go_ret
  exact ⟨rfl, rfl⟩

/-- What holds at the head of the encoder's loop. -/
def EncRel (n base P : Nat) (B : List Nat) (s rem : Nat) (dn : Bool) (wr : World) : Prop :=
  ∃ (E : List Nat) (ao : Option Addr) (cap : Nat), (dn = false ∧ Going n s rem E ∧ ∃ x, Raw wr base P ao cap (B ++ E) x) ∨ (dn = true ∧ rem = 0 ∧ s ≤ 1026 ∧ (∃ F r, Done n E F r) ∧ St wr base P ao cap (B ++ E) (8 * (B ++ E).length))

/-- What holds at the head of the decoder's loop. -/
def DecRel (F : List Nat) (r n b t p : Nat) (fn : Bool) : Prop :=
  (fn = false ∧ ∃ k, p = b + k ∧ k ≤ F.length ∧ t = tot (F.take k)) ∨ (fn = true ∧ p = b + F.length + (enc r).length ∧ t = n)

set_option maxRecDepth 100000 in
set_option maxHeartbeats 2000000 in
theorem law6 {w : World} {a : Option Addr} {L cap : Nat} {B : List Nat} (hv : View w a L B) (ha : a = none → L = 0) (x : Int) (n : Int) :
    Calls Try.prog 6 #[.slice a L cap, .int .i64 x, .int .i64 n] w (Fine w) := by
  obtain rfl := hv.len
  by_cases h0 : B.length ≤ 1048576
  · by_cases h1 : n < 0
    · go_enter Try.func6, Try.ntmps6
      go_wp2_with fail
      refine (zz19_yes _ _ _ _ _ _ h0).mono ?_
      rintro e w' ⟨rfl, rfl⟩
      go_wp2
      go_ret
      exact ⟨rfl, Below.refl _ _⟩
    · by_cases h2 : 67108864 < n
      · go_enter Try.func6, Try.ntmps6
        go_wp2_with fail
        refine (zz19_yes _ _ _ _ _ _ h0).mono ?_
        rintro e w' ⟨rfl, rfl⟩
        go_wp2
        go_ret
        exact ⟨rfl, Below.refl _ _⟩
      · obtain ⟨n, rfl⟩ : ∃ k : Nat, n = (k : Int) := ⟨n.toNat, by omega⟩
        go_enter Try.func6, Try.ntmps6
        go_wp2_with fail
        refine (zz19_yes _ _ _ _ _ _ h0).mono ?_
        rintro e w' ⟨rfl, hw'⟩
        subst w'
        go_wp2_with fail
        refine (clone_any a B.length cap B w hv h0 ha).mono ?_
        rintro e w1 ⟨ao1, cp1, rfl, hown1, hbel1⟩
        go_wp2_with fail
        have hv1 : View w1 ao1 B.length B := view_later hown1 hv.byte (Below.refl w1.heap.size w1) (Nat.le_refl _)
        refine (clone_any ao1 B.length cp1 B w1 hv1 h0 (own_nil hown1)).mono ?_
        rintro e w2 ⟨ao2, cp2, rfl, hown2, hbel2⟩
        go_wp2_with fail
        refine (new_any ao2 B.length cp2 x w2).mono ?_
        rintro e w3 ⟨rfl, hw3⟩
        have hS : Raw w3 w1.heap.size w2.heap.size ao2 cp2 B x := by rw [hw3]; exact Raw.new x hown2 hbel2.size
        have hbel3 : Below w1.heap.size w1 w3 := by rw [hw3]; exact hbel2.alloc hbel2.size _
        clear hw3 hown2 hbel2 hv1
        go_wp2_with fail
        go_loopg [8, 9, 10] 4200 (fun gk r8 r9 r10 wr => ∃ (s rem : Nat) (dn : Bool), r8 = .int .i64 (rem : Int) ∧ r9 = .bool dn ∧ r10 = .int .i64 (s : Int) ∧ gk = 4200 - s ∧ EncRel n w1.heap.size w2.heap.size B s rem dn wr ∧ Below w1.heap.size w1 wr)
        case atStart => exact ⟨0, n, false, rfl, rfl, rfl, rfl, ⟨[], ao2, cp2, .inl ⟨rfl, Going.start n, x, by rw [List.append_nil]; exact hS⟩⟩, hbel3⟩
        case round =>
          obtain ⟨s, rem, dn, rfl, rfl, rfl, rfl, ⟨E, ao, cp, hE⟩, hbelr⟩ := hrel
          clear hS hbel3
          rcases hE with ⟨rfl, hg, x', hRaw⟩ | ⟨rfl, rfl, hs, ⟨F, r, hD⟩, hSt⟩
          · have hsb := hg.bound (by omega)
            have hrem : rem ≤ n := by have := hg.sum; omega
            have hbE : ∀ z ∈ B ++ E, z < 256 := by
              intro z hz
              rcases List.mem_append.1 hz with h | h
              · exact hv.byte z h
              · have := hg.frag z h; omega
            have hlE : (B ++ E).length ≤ 1050000 := by have := hg.len; simp; omega
            by_cases c1 : (16384 : Int) ≤ (rem : Int)
            · go_wp2_with fail
              refine (zlen_any hRaw hbE (by omega) rem (by omega)).mono ?_
              rintro e w4 ⟨rfl, ao', cap', hS4, hbel4⟩
              have hg2 := hg.more (by omega)
              have hcl := cnt_le rem
              obtain ⟨k1, k2, k3, k4⟩ := cnt_more (rem := rem) (by omega)
              rw [k4]
              have hS5 : ∃ x, Raw w4 w1.heap.size w2.heap.size ao' cap' (B ++ (E ++ enc rem)) x := ⟨_, by rw [← List.append_assoc]; exact hS4.raw⟩
              generalize cnt rem = C at *
              have k1' : (16384 : Int) ≤ (C : Int) := by omega
              have k2' : (C : Int) ≤ 65536 := by omega
              have k3' : ((C : Int) % 16384 != 0) = false := by rw [bne_eq_false_iff_eq]; omega
              clear k1 k2 k3 k4 hS4 hg hRaw hbE hlE
              go_wp2
              go_roundg (4200 - (s + 1))
              case measure => omega
              case rel => exact ⟨s + 1, rem - C, false, by congr 1; omega, rfl, by go_num, rfl, ⟨_, _, _, Or.inl ⟨rfl, hg2, hS5⟩⟩, hbelr.trans hbel4⟩
            · go_wp2_with fail
              refine (zlen_any hRaw hbE (by omega) rem (by omega)).mono ?_
              rintro e w4 ⟨rfl, ao', cap', hS4, hbel4⟩
              have hg2 := hg.last (by omega)
              obtain ⟨k1, k2⟩ := cnt_last (rem := rem) (by omega)
              rw [k1, k2]
              rw [List.append_assoc] at hS4
              clear k1 k2 hg hRaw hbE hlE
              go_wp2
              go_roundg (4200 - (s + 1))
              case measure => omega
              case rel => exact ⟨s + 1, 0, true, by go_num, rfl, by go_num, rfl, ⟨_, _, _, .inr ⟨rfl, rfl, by omega, ⟨_, _, hg2⟩, hS4⟩⟩, hbelr.trans hbel4⟩
          · obtain ⟨rfl, hF, hsum, hsm, hFl⟩ := hD
            have hbG : ∀ z ∈ B ++ (F ++ enc r), z < 256 := by
              intro z hz
              rcases List.mem_append.1 hz with h | h
              · exact hv.byte z h
              · rcases List.mem_append.1 h with h | h
                · have := hF z h; omega
                · exact enc_byte r z h
            have hGl : (B ++ (F ++ enc r)).length = B.length + F.length + (enc r).length := by simp; omega
            obtain ⟨hN1, hN2⟩ := enc_len r
            have hGp : ∀ i, i < B.length → (B ++ (F ++ enc r)).getD i 0 = B.getD i 0 := by
              intro i hi
              rw [List.getD_eq_getElem?_getD, List.getElem?_append_left hi, List.getD_eq_getElem?_getD]
            have hGf : ∀ i, i < F.length → (B ++ (F ++ enc r)).getD (B.length + i) 0 = F.getD i 0 := by
              intro i hi
              rw [List.getD_eq_getElem?_getD, List.getElem?_append_right (by omega), show B.length + i - B.length = i by omega, List.getElem?_append_left hi, List.getD_eq_getElem?_getD]
            have hGe : ∀ i, (B ++ (F ++ enc r)).getD (B.length + F.length + i) 0 = (enc r).getD i 0 := by
              intro i
              rw [List.getD_eq_getElem?_getD, List.getElem?_append_right (by omega), show B.length + F.length + i - B.length = F.length + i by omega, List.getElem?_append_right (by omega), show F.length + i - F.length = i by omega, List.getD_eq_getElem?_getD]
            generalize B ++ (F ++ enc r) = G at hSt hbG hGl hGp hGf hGe
            obtain ⟨g, cp, hv', _, _⟩ := hSt.own.form (by omega)
            simp only [Value.slice.injEq] at hv'
            obtain ⟨rfl, _, rfl⟩ := hv'
            have hV : View wr ao1 B.length B := view_later hown1 hv.byte hbelr (Nat.le_refl _)
            have hB : Below w.heap.size w wr := hbel1.trans (hbelr.mono hbel1.size)
            have hc : ∀ i, i < G.length → wr.cell? ⟨g, i, none⟩ = some (.int .u8 ((G.getD i 0 : Nat) : Int)) := by
              intro i hi
              rw [hSt.own.cellAt i (by omega)]
              unfold octs
              rw [List.getElem?_map, List.getD_eq_getElem?_getD, List.getElem?_eq_getElem hi]
              rfl
            have hV2 : View wr (some ⟨g, 0, none⟩) B.length B := ⟨rfl, hV.byte, fun _ => ⟨g, 0, rfl, fun i hi => by rw [Nat.zero_add, hc i (by omega), hGp i hi]⟩⟩
            have hGle : G.length ≤ 1060000 := by omega
            have hGge : (B.length : Int) ≤ (G.length : Int) := by omega
            have hGc := own_cap hSt.own
            have hBc : (B.length : Int) ≤ (cp : Int) := by omega
            have t1 : decide ((G.length : Int) < (B.length : Int)) = false := by simp; omega
            have Hc : Hid (∀ i, i < G.length → wr.cell? ⟨g, i, none⟩ = some (.int .u8 ((G.getD i 0 : Nat) : Int))) := hc
            have HGl : Hid (G.length = B.length + F.length + (enc r).length) := hGl
            have HF : Hid (Frag F) := hF
            have Hsum : Hid (tot F + r = n) := hsum
            have HGf : Hid (∀ i, i < F.length → G.getD (B.length + i) 0 = F.getD i 0) := hGf
            have HGe : Hid (∀ i, G.getD (B.length + F.length + i) 0 = (enc r).getD i 0) := hGe
            clear hc hGl hF hsum hGf hGe hGp hGc hbG hown1 hbelr hbel1 hv ha
            go_wp2_with fail
            refine (buf_any wr hSt).mono ?_
            rintro e w' ⟨rfl, hw'⟩
            subst w'
            go_wp2_with fail
            refine (cnt_any wr hSt).mono ?_
            rintro e w' ⟨rfl, hw'⟩
            subst w'
            go_wp2_with fail
            refine (same_any hV2 hV _ _ (by omega)).mono ?_
            rintro e w' ⟨rfl, k, hw'⟩
            have Hc' : Hid (∀ i, i < G.length → w'.cell? ⟨g, i, none⟩ = some (.int .u8 ((G.getD i 0 : Nat) : Int))) := by rw [hw']; exact Hc
            have hB' : Below w.heap.size w w' := by rw [hw']; exact ⟨hB.os, hB.tape, hB.output, hB.size, hB.block⟩
            clear hw' Hc hB hV hV2 hSt
            go_upto_region 32 with fail
            go_cut [14] (fun t wx => t = .int .i64 0 ∧ wx = w')
            case first =>
              go_wp2_with fail
              go_meet
              exact ⟨rfl, rfl⟩
            case rest =>
            obtain ⟨rfl, hwc⟩ := hcut
            subst wc
            go_wp2_with fail
            go_loopg [14, 15, 16] (G.length + 1 - B.length) (fun gk t14 t15 t16 wx => wx = w' ∧ ∃ (t p : Nat) (fn : Bool), t14 = .int .i64 (t : Int) ∧ t15 = .int .i64 (p : Int) ∧ t16 = .bool fn ∧ gk = G.length + 1 - p ∧ DecRel F r n B.length t p fn)
            case atStart => exact ⟨rfl, 0, B.length, false, rfl, rfl, rfl, rfl, .inl ⟨rfl, 0, rfl, Nat.zero_le _, by simp [tot]⟩⟩
            case round =>
              obtain ⟨hwx, t, p, fn, rfl, rfl, rfl, rfl, hD⟩ := hrel
              subst wr
              have hl := HGl.out
              rcases hD with ⟨rfl, k, hp, hk, ht⟩ | ⟨rfl, hp, ht⟩
              · have Hp : Hid (p = B.length + k) := hp
                have Ht : Hid (t = tot (F.take k)) := ht
                have htn : t ≤ 67108864 := by have := tot_le (F := F) k; have := Hsum.out; omega
                have hpl : (p : Int) < (G.length : Int) := by omega
                by_cases hkF : k < F.length
                · have hz := HF.out (F.getD k 0) (by rw [List.getD_eq_getElem?_getD, List.getElem?_eq_getElem hkF]; exact List.getElem_mem hkF)
                  have hcz := Hc'.out p (by omega)
                  rw [show G.getD p 0 = F.getD k 0 by rw [hp]; exact HGf.out k hkF] at hcz
                  have htt := tot_take hkF
                  generalize F.getD k 0 = z at hz hcz htt
                  obtain ⟨q, hq⟩ : ∃ q : Nat, q = z - 192 := ⟨_, rfl⟩
                  have hand : bits .and .u8 (z : Int) 63 = (q : Int) := by
                    have := u8_and_nat z 63 (by omega) (by decide)
                    rw [nat_mask6, show z % 64 = q by omega] at this
                    exact this
                  have hq1 : (1 : Int) ≤ (q : Int) := by omega
                  have hq4 : (q : Int) ≤ 4 := by omega
                  have hz1 : (193 : Int) ≤ (z : Int) := by omega
                  have hz2 : (z : Int) ≤ 196 := by omega
                  have Htt : Hid (t + q * 16384 = tot (F.take (k + 1))) := by show _ = _; rw [htt, ht, hq]
                  clear hp ht htt hq hz hl
                  go_wp2
                  go_roundg (G.length + 1 - (p + 1))
                  case measure => omega
                  case rel => exact ⟨rfl, t + q * 16384, p + 1, false, by go_num, by go_num, rfl, rfl, .inl ⟨rfl, k + 1, by rw [Hp.out]; omega, hkF, Htt.out⟩⟩
                · have hkF' : k = F.length := by omega
                  subst hkF'
                  rw [List.take_length] at ht
                  have hcz := Hc'.out p (by omega)
                  rw [show G.getD p 0 = (enc r).getD 0 0 by rw [hp]; exact HGe.out 0] at hcz
                  have hsum' := Hsum.out
                  by_cases c128 : r < 128
                  · obtain ⟨e1, _, e3, _, _⟩ := tab1 r c128
                    rw [e1] at hcz
                    rw [e3] at hl
                    have c1' : (r : Int) < 128 := by omega
                    have Hfin : Hid (p + 1 = B.length + F.length + (enc r).length ∧ t + r = n) := by rw [e3]; exact ⟨by omega, by omega⟩
                    clear hp ht hl Ht e1 e3 hsum' c128 hN1 hN2
                    go_wp2
                    go_roundg (G.length + 1 - (p + 1))
                    case measure => omega
                    case rel => exact ⟨rfl, t + r, p + 1, true, by go_num, by go_num, rfl, rfl, .inr ⟨rfl, Hfin.out.1, Hfin.out.2⟩⟩
                  · obtain ⟨e1, e2, e3, _, _⟩ := tab2 r c128 hsm
                    have hcz2 := Hc'.out (p + 1) (by omega)
                    rw [show G.getD (p + 1) 0 = (enc r).getD 1 0 by rw [hp]; exact HGe.out 1, e2] at hcz2
                    rw [e1] at hcz
                    obtain ⟨z, hz⟩ : ∃ z : Nat, z = 128 + r / 256 := ⟨_, rfl⟩
                    obtain ⟨y, hy⟩ : ∃ y : Nat, y = r % 256 := ⟨_, rfl⟩
                    obtain ⟨q, hq⟩ : ∃ q : Nat, q = r / 256 := ⟨_, rfl⟩
                    rw [← hz] at hcz
                    rw [← hy] at hcz2
                    have hand : bits .and .u8 (z : Int) 63 = (q : Int) := by
                      have := u8_and_nat z 63 (by omega) (by decide)
                      rw [nat_mask6, show z % 64 = q by omega] at this
                      exact this
                    have hor : bits .or .i64 ((q : Int) * 256) (y : Int) = (r : Int) := by
                      have := i64_or_nat (q * 256) y (by omega) (by omega)
                      rw [nat_join 8 (q * 256) y (by omega) (by omega), show q * 256 + y = r by omega] at this
                      rw [← this]
                      rfl
                    have hz1 : (128 : Int) ≤ (z : Int) := by omega
                    have hz2 : (z : Int) < 192 := by omega
                    have hq64 : (q : Int) < 64 := by omega
                    have hy256 : (y : Int) < 256 := by omega
                    have hr1 : (r : Int) < 16384 := by omega
                    have hp1 : (p : Int) + 1 < (G.length : Int) := by omega
                    have Hfin : Hid (p + 2 = B.length + F.length + (enc r).length ∧ t + r = n) := by rw [e3]; exact ⟨by omega, by omega⟩
                    clear hp ht hl Ht e1 e2 e3 hsum' c128 hN1 hN2 hz hy hq hsm
                    go_wp2
                    go_roundg (G.length + 1 - (p + 2))
                    case measure => omega
                    case rel => exact ⟨rfl, t + r, p + 2, true, by go_num, by go_num, rfl, rfl, .inr ⟨rfl, Hfin.out.1, Hfin.out.2⟩⟩
              · have e1 : ((p : Int) == (G.length : Int)) = true := by rw [beq_iff_eq]; omega
                have e2 : ((t : Int) == (n : Int)) = true := by rw [beq_iff_eq]; omega
                have e3 : decide ((p : Int) < (G.length : Int)) = false := by simp; omega
                clear hp ht hl
                go_wp2
                all_goals go_ret
                all_goals exact ⟨rfl, hB'⟩
  · go_enter Try.func6, Try.ntmps6
    go_wp2_with fail
    refine (zz19_no _ _ _ _ _ _ (by omega)).mono ?_
    rintro e w' ⟨rfl, rfl⟩
    go_wp2
    go_ret
    exact ⟨rfl, Below.refl _ _⟩
end Go.Proofs.Qxb6602842a
