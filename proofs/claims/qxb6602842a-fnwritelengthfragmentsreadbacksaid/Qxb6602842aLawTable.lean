import Derived.Test.Qxb6602842aLen
import Derived.Test.Qxb6602842aLeaf
import Derived.BigQuiet
import Derived.Deep.LoopGhost
import Derived.Deep.DeepCutAuto
import Derived.Deep.CutBlock
namespace Go.Proofs.Qxb6602842a
open Go.RowKit
theorem View.drewN {w : World} {a : Option Addr} {n : Nat} {B : List Nat} (h : View w a n B) (k : Nat) : View (w.drewN k) a n B := ⟨h.len, h.byte, h.cell⟩

set_option maxHeartbeats 400000 in
theorem same_any {w : World} {a b : Option Addr} {n : Nat} {B : List Nat} (ha : View w a n B) (hb : View w b n B) (c d : Nat) (hn : n ≤ 2097152) :
    Calls Try.prog 16 #[.slice a n c, .slice b n d] w fun e w' => e = .returned (.bool true) ∧ ∃ k, w' = w.drewN k := by
  have hne : ((n : Int) != (n : Int)) = false := by simp
  go_enter Try.func16, Try.ntmps16
  go_wp2
  go_loopg [5] n (fun gk i wr => (∃ q, wr = w.drewN q) ∧ ∃ k : Nat, i = .int .i64 (k : Int) ∧ k ≤ n ∧ gk = n - k)
  case atStart => exact ⟨⟨0, rfl⟩, 0, rfl, Nat.zero_le _, by omega⟩
  case round =>
    obtain ⟨⟨q, hwr⟩, k, rfl, hk, rfl⟩ := hrel
    subst wr
    by_cases hlt : k < n
    · obtain ⟨b1, o1, rfl, h1⟩ := (ha.drewN q).cell (by omega)
      obtain ⟨b2, o2, rfl, h2⟩ := (hb.drewN q).cell (by omega)
      have e1 := h1 k hlt
      have e2 := h2 k hlt
      generalize B.getD k 0 = z at e1 e2
      generalize hW : w.drewN q = W at *
      have HW : Hid (w.drewN q = W) := hW
      have hlt' : (k : Int) < (n : Int) := by omega
      clear hW h1 h2 ha hb
      go_wp2_with fail
      go_quiet (fail)
      go_wp2
      go_roundg (n - (k + 1))
      case measure => omega
      case rel => exact ⟨⟨q + nq, by rw [← HW.out, World.drewN_drewN]⟩, k + 1, by go_num, by omega, rfl⟩
    · go_wp2
      go_ret
      exact ⟨rfl, q, rfl⟩

theorem own_cap {w : World} {base g n cap : Nat} {xs : List Value} (h : w.ownsRow base 5 1 (.slice (some ⟨g, 0, none⟩) n cap) n xs) : n ≤ cap := by
  rcases h.2 with ⟨hv, _⟩ | ⟨g', cp, cur, hv, _, _, hc, _⟩
  · simp at hv
  · simp only [Value.slice.injEq] at hv
    obtain ⟨_, _, rfl⟩ := hv
    exact hc

theorem tab1 (n : Nat) (h : n < 128) : (enc n).getD 0 0 = n ∧ (enc n).getD 1 0 = 0 ∧ (enc n).length = 1 ∧ cnt n = n ∧ more n = false := by
  have e : enc n = [n] := by unfold enc; rw [if_pos h]
  refine ⟨by rw [e]; rfl, by rw [e]; rfl, by rw [e]; rfl, by unfold cnt; rw [if_pos (by omega)], by unfold more; simp; omega⟩
theorem tab2 (n : Nat) (h : ¬ n < 128) (h2 : n < 16384) : (enc n).getD 0 0 = 128 + n / 256 ∧ (enc n).getD 1 0 = n % 256 ∧ (enc n).length = 2 ∧ cnt n = n ∧ more n = false := by
  have e : enc n = [128 + n / 256, n % 256] := by unfold enc; rw [if_neg h, if_pos h2]
  refine ⟨by rw [e]; rfl, by rw [e]; rfl, by rw [e]; rfl, by unfold cnt; rw [if_pos (by omega)], by unfold more; simp; omega⟩
theorem tab3 (n q : Nat) (h2 : ¬ n < 16384) (hq : min (n / 16384) 4 = q) : (enc n).getD 0 0 = 192 + q ∧ (enc n).getD 1 0 = 0 ∧ (enc n).length = 1 ∧ cnt n = q * 16384 ∧ more n = true := by
  have e : enc n = [192 + q] := by unfold enc; rw [if_neg (by omega), if_neg h2, hq]
  refine ⟨by rw [e]; rfl, by rw [e]; rfl, by rw [e]; rfl, by unfold cnt; rw [if_neg (by omega), hq], by unfold more; simp; omega⟩

theorem zz17_yes (a : Option Addr) (n cap : Nat) (x y : Int) (w : World) (h : n ≤ 1048576) :
    Calls Try.prog 17 #[.slice a n cap, .int .i64 x, .int .i64 y] w fun e w' => e = .returned (.bool true) ∧ w' = w := by
  go_enter Try.func17, Try.ntmps17
  go_wp2
  go_ret
  exact ⟨rfl, rfl⟩
theorem zz17_no (a : Option Addr) (n cap : Nat) (x y : Int) (w : World) (h : 1048576 < n) :
    Calls Try.prog 17 #[.slice a n cap, .int .i64 x, .int .i64 y] w fun e w' => e = .returned (.bool false) ∧ w' = w := by
  go_enter Try.func17, Try.ntmps17
  go_wp2
  go_ret
  exact ⟨rfl, rfl⟩

set_option maxRecDepth 100000 in
set_option maxHeartbeats 1000000 in
theorem law5 {w : World} {a : Option Addr} {L cap : Nat} {B : List Nat} (hv : View w a L B) (ha : a = none → L = 0) (x : Int) (n : Int)
    (hn' : n ≤ 9223372036854775807) :
    Calls Try.prog 5 #[.slice a L cap, .int .i64 x, .int .i64 n] w (Fine w) := by
  obtain rfl := hv.len
  by_cases h0 : B.length ≤ 1048576
  · by_cases h1 : n < 0
    · go_enter Try.func5, Try.ntmps5
      go_wp2_with fail
      refine (zz17_yes _ _ _ _ _ _ h0).mono ?_
      rintro e w' ⟨rfl, rfl⟩
      go_wp2
      go_ret
      exact ⟨rfl, Below.refl _ _⟩
    · obtain ⟨n, rfl⟩ : ∃ k : Nat, n = (k : Int) := ⟨n.toNat, by omega⟩
      go_enter Try.func5, Try.ntmps5
      go_wp2_with fail
      refine (zz17_yes _ _ _ _ _ _ h0).mono ?_
      rintro e w' ⟨rfl, hw'⟩
      subst w'
      go_wp2_with fail
      refine (clone_any a B.length cap B w hv h0 ha).mono ?_
      rintro e w1 ⟨ao1, cp1, rfl, hown1, hbel1⟩
      go_wp2_with fail
      have hv1 : View w1 ao1 B.length B := view_later hown1 hv.byte (Below.refl w1.heap.size w1) (Nat.le_refl _)
      refine (clone_any ao1 B.length cp1 B w1 hv1 h0 (own_nil hown1)).mono ?_
      rintro e w2 ⟨ao2, cp2, rfl, hown2, hbel2⟩
      go_wp2_with fail
      refine (new_any ao2 B.length cp2 x w2).mono ?_
      rintro e w3 ⟨rfl, hw3⟩
      have hS : Raw w3 w1.heap.size w2.heap.size ao2 cp2 B x := by rw [hw3]; exact Raw.new x hown2 hbel2.size
      have hbel3 : Below w1.heap.size w1 w3 := by rw [hw3]; exact hbel2.alloc hbel2.size _
      clear hw3 hown2 hbel2 hv1
      go_wp2_with fail
      refine (zlen_any hS hv.byte (by omega) n (by omega)).mono ?_
      rintro e w4 ⟨rfl, ao', cap', hS4, hbel4⟩
      have hV : View w4 ao1 B.length B := view_later hown1 hv.byte (hbel3.trans hbel4) (Nat.le_refl _)
      have hB : Below w.heap.size w w4 := hbel1.trans ((hbel3.trans hbel4).mono hbel1.size)
      clear hbel1 hbel3 hbel4 hown1 hS hv ha
      go_upto_block 0 with fail
      go_cut [10, 11, 12, 13, 14] (fun s10 s11 s12 s13 s14 wx => s10 = .int .u8 (((enc n).getD 0 0 : Nat) : Int) ∧ s11 = .int .u8 (((enc n).getD 1 0 : Nat) : Int) ∧ s12 = .int .i64 ((enc n).length : Int) ∧ s13 = .int .i64 (cnt n : Int) ∧ s14 = .bool (more n) ∧ wx = w4)
      case first =>
        by_cases c1 : (n : Int) < 128
        · go_wp2_with fail
          go_meet
          obtain ⟨e1, e2, e3, e4, e5⟩ := tab1 n (by omega)
          rw [e1, e2, e3, e4, e5]
          exact ⟨rfl, rfl, rfl, rfl, rfl, rfl⟩
        · by_cases c2 : (n : Int) < 16384
          · go_wp2_with fail
            go_meet
            obtain ⟨e1, e2, e3, e4, e5⟩ := tab2 n (by omega) (by omega)
            rw [e1, e2, e3, e4, e5]
            exact ⟨by go_num, by go_num, rfl, rfl, rfl, rfl⟩
          · by_cases c3 : (n : Int) < 32768
            · go_wp2_with fail
              go_meet
              obtain ⟨e1, e2, e3, e4, e5⟩ := tab3 n 1 (by omega) (by rw [Nat.min_eq_left (by omega)]; omega)
              rw [e1, e2, e3, e4, e5]
              exact ⟨rfl, rfl, rfl, rfl, rfl, rfl⟩
            · by_cases c4 : (n : Int) < 49152
              · go_wp2_with fail
                go_meet
                obtain ⟨e1, e2, e3, e4, e5⟩ := tab3 n 2 (by omega) (by rw [Nat.min_eq_left (by omega)]; omega)
                rw [e1, e2, e3, e4, e5]
                exact ⟨rfl, rfl, rfl, rfl, rfl, rfl⟩
              · by_cases c5 : (n : Int) < 65536
                · go_wp2_with fail
                  go_meet
                  obtain ⟨e1, e2, e3, e4, e5⟩ := tab3 n 3 (by omega) (by rw [Nat.min_eq_left (by omega)]; omega)
                  rw [e1, e2, e3, e4, e5]
                  exact ⟨rfl, rfl, rfl, rfl, rfl, rfl⟩
                · go_wp2_with fail
                  go_meet
                  obtain ⟨e1, e2, e3, e4, e5⟩ := tab3 n 4 (by omega) (Nat.min_eq_right (by omega))
                  rw [e1, e2, e3, e4, e5]
                  exact ⟨rfl, rfl, rfl, rfl, rfl, rfl⟩
      case rest =>
        obtain ⟨rfl, rfl, rfl, rfl, rfl, hwc⟩ := hcut
        subst wc
        obtain ⟨hN1, hN2⟩ := enc_len n
        have hbG : ∀ z ∈ B ++ enc n, z < 256 := by
          intro z hz
          rcases List.mem_append.1 hz with h | h
          · exact hV.byte z h
          · exact enc_byte n z h
        have hG0 : (B ++ enc n).getD B.length 0 = (enc n).getD 0 0 := by
          rw [List.getD_eq_getElem?_getD, List.getElem?_append_right (Nat.le_refl _), Nat.sub_self, List.getD_eq_getElem?_getD]
        have hG1 : (B ++ enc n).getD (B.length + 1) 0 = (enc n).getD 1 0 := by
          rw [List.getD_eq_getElem?_getD, List.getElem?_append_right (by omega), show B.length + 1 - B.length = 1 by omega, List.getD_eq_getElem?_getD]
        have hGp : ∀ i, i < B.length → (B ++ enc n).getD i 0 = B.getD i 0 := by
          intro i hi
          rw [List.getD_eq_getElem?_getD, List.getElem?_append_left hi, List.getD_eq_getElem?_getD]
        have hGl : (B ++ enc n).length = B.length + (enc n).length := List.length_append
        generalize B ++ enc n = G at hS4 hbG hG0 hG1 hGp hGl
        obtain ⟨g, cp, hv, _, _⟩ := hS4.own.form (by omega)
        simp only [Value.slice.injEq] at hv
        obtain ⟨rfl, _, rfl⟩ := hv
        have hc : ∀ i, i < G.length → w4.cell? ⟨g, i, none⟩ = some (.int .u8 ((G.getD i 0 : Nat) : Int)) := by
          intro i hi
          rw [hS4.own.cellAt i (by omega)]
          unfold octs
          rw [List.getElem?_map, List.getD_eq_getElem?_getD, List.getElem?_eq_getElem hi]
          rfl
        have hV2 : View w4 (some ⟨g, 0, none⟩) B.length B := ⟨rfl, hV.byte, fun _ => ⟨g, 0, rfl, fun i hi => by rw [Nat.zero_add, hc i (by omega), hGp i hi]⟩⟩
        have hc0 := hc B.length (by omega)
        rw [hG0] at hc0
        have hc1 : (enc n).length = 2 → w4.cell? ⟨g, B.length + 1, none⟩ = some (.int .u8 (((enc n).getD 1 0 : Nat) : Int)) := by
          intro h
          rw [hc (B.length + 1) (by omega), hG1]
        generalize (enc n).getD 0 0 = E0 at *
        generalize (enc n).getD 1 0 = E1 at *
        generalize (enc n).length = N at *
        generalize cnt n = C at *
        generalize more n = M at *
        have t1 : ((C : Int) != (C : Int)) = false := by simp
        have t2 : (M != M) = false := by simp
        have t3 : ((G.length : Int) != (B.length : Int) + (N : Int)) = false := by rw [bne_eq_false_iff_eq]; omega
        have hGle : G.length ≤ 1048580 := by omega
        have hGge : B.length ≤ G.length := by omega
        have hGc := own_cap hS4.own
        have hBc : (B.length : Int) ≤ (cap' : Int) := by omega
        clear hGc
        have hGlt : (B.length : Int) < (G.length : Int) := by omega
        have HGl : Hid (G.length = B.length + N) := hGl
        clear hG0 hG1 hGp hbG hc hGl
        go_wp2_with fail
        refine (buf_any w4 hS4).mono ?_
        rintro e w' ⟨rfl, hw'⟩
        subst w'
        go_wp2_with fail
        refine (cnt_any w4 hS4).mono ?_
        rintro e w' ⟨rfl, hw'⟩
        subst w'
        go_wp2_with fail
        refine (same_any hV2 hV _ _ (by omega)).mono ?_
        rintro e w' ⟨rfl, k, hw'⟩
        have hc0' : w'.cell? ⟨g, B.length, none⟩ = some (.int .u8 (E0 : Int)) := by rw [hw']; exact hc0
        have hc1' : N = 2 → w'.cell? ⟨g, B.length + 1, none⟩ = some (.int .u8 (E1 : Int)) := by rw [hw']; exact hc1
        have hB' : Below w.heap.size w w' := by rw [hw']; exact ⟨hB.os, hB.tape, hB.output, hB.size, hB.block⟩
        have t4 : ((E0 : Int) != (E0 : Int)) = false := by simp
        have t5 : ((E1 : Int) != (E1 : Int)) = false := by simp
        clear hw' hc0 hc1 hB hV hV2 hS4
        by_cases hN : N = 2
        · have hc2 := hc1' hN
          have t6 : ((N : Int) == 2) = true := by rw [beq_iff_eq]; omega
          have hG2 : (B.length : Int) + 1 < (G.length : Int) := by have := HGl.out; omega
          clear hN hc1'
          go_wp2
          go_ret
          exact ⟨rfl, hB'⟩
        · have t6 : ((N : Int) == 2) = false := by rw [beq_eq_false_iff_ne]; omega
          clear hN hc1'
          go_wp2
          go_ret
          exact ⟨rfl, hB'⟩
  · go_enter Try.func5, Try.ntmps5
    go_wp2_with fail
    refine (zz17_no _ _ _ _ _ _ (by omega)).mono ?_
    rintro e w' ⟨rfl, rfl⟩
    go_wp2
    go_ret
    exact ⟨rfl, Below.refl _ _⟩
end Go.Proofs.Qxb6602842a
