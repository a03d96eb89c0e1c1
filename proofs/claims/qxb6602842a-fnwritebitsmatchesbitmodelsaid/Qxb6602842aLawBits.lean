import Derived.Test.Qxb6602842aLeaf
import Derived.Test.Qxb6602842aWrite
import Derived.Deep.LoopGhost
import Derived.Deep.DeepCutAuto
namespace Go.Proofs.Qxb6602842a
open Go.RowKit

theorem zz7_yes (a : Option Addr) (n cap : Nat) (x y z : Int) (w : World) (h : n ≤ 1048576) :
    Calls Try.prog 7 #[.slice a n cap, .int .i64 x, .int .u64 y, .int .i64 z] w fun e w' => e = .returned (.bool true) ∧ w' = w := by
  go_enter Try.func7, Try.ntmps7
  go_wp2
  go_ret
  exact ⟨rfl, rfl⟩
theorem zz7_no (a : Option Addr) (n cap : Nat) (x y z : Int) (w : World) (h : 1048576 < n) :
    Calls Try.prog 7 #[.slice a n cap, .int .i64 x, .int .u64 y, .int .i64 z] w fun e w' => e = .returned (.bool false) ∧ w' = w := by
  go_enter Try.func7, Try.ntmps7
  go_wp2
  go_ret
  exact ⟨rfl, rfl⟩

theorem want_val (v a : Nat) : bits BinOp.and IntKind.u8 ((v : Int) / 2 ^ a % 256) 1 = (((v.testBit a).toNat : Nat) : Int) := by
  have e : bits BinOp.and IntKind.u8 ((v : Int) / 2 ^ a % 256) 1 = ((v / 2 ^ a % 2 ^ 1 : Nat) : Int) := chunk_val v a 1 (by decide)
  rw [e, Nat.pow_one, bit_num]

set_option maxRecDepth 100000 in
set_option maxHeartbeats 1000000 in
theorem law3 {w : World} {a : Option Addr} {L cap : Nat} {B : List Nat} (hv : View w a L B) (ha : a = none → L = 0) (bits : Int) (v : Nat) (n : Int)
    (hb : -9223372036854775808 ≤ bits) (hb' : bits ≤ 9223372036854775807) (hv64 : v < 18446744073709551616) (hn : -9223372036854775808 ≤ n) :
    Calls Try.prog 3 #[.slice a L cap, .int .i64 bits, .int .u64 (v : Int), .int .i64 n] w (Fine w) := by
  obtain rfl := hv.len
  by_cases h0 : B.length ≤ 1048576
  · by_cases h1 : 64 < n
    · go_enter Try.func3, Try.ntmps3
      go_wp2_with fail
      refine (zz7_yes _ _ _ _ _ _ _ h0).mono ?_
      rintro e w' ⟨rfl, rfl⟩
      go_wp2
      go_ret
      exact ⟨rfl, Below.refl _ _⟩
    · go_enter Try.func3, Try.ntmps3
      go_wp2_with fail
      refine (zz7_yes _ _ _ _ _ _ _ h0).mono ?_
      rintro e w' ⟨rfl, hw'⟩
      subst w'
      go_wp2_with fail
      refine (valid_any hv _ bits h0 hb hb').mono ?_
      rintro e w' ⟨r, rfl, hw', hr⟩
      subst w'
      cases r with
      | false =>
        go_wp2
        go_ret
        exact ⟨rfl, Below.refl _ _⟩
      | true =>
        obtain ⟨m, rfl, hm1, hm2⟩ := hr rfl
        have Hm1 : Hid ((m + 7) / 8 = B.length) := hm1
        have hm8 : m ≤ 8388608 := by omega
        have hK1 : n.toNat ≤ 64 := by omega
        clear hr hm1
        go_wp2_with fail
        refine (clone_any a B.length cap B w hv h0 ha).mono ?_
        rintro e w1 ⟨ao1, cp1, rfl, hown1, hbel1⟩
        go_wp2_with fail
        have hv1 : View w1 ao1 B.length B := view_later hown1 hv.byte (Below.refl w1.heap.size w1) (Nat.le_refl _)
        refine (clone_any ao1 B.length cp1 B w1 hv1 h0 (own_nil hown1)).mono ?_
        rintro e w2 ⟨ao2, cp2, rfl, hown2, hbel2⟩
        go_wp2_with fail
        refine (new_any ao2 B.length cp2 (m : Int) w2).mono ?_
        rintro e w3 ⟨rfl, hw3⟩
        have hS : St w3 w1.heap.size w2.heap.size ao2 cp2 B m := by rw [hw3]; exact St.new m hown2 hbel2.size
        have hbel3 : Below w1.heap.size w1 w3 := by rw [hw3]; exact hbel2.alloc hbel2.size _
        clear hw3 hown2 hbel2 hv1
        go_wp2_with fail
        refine (write_any (Inv B m v n.toNat) v (fun B' m' n' h hi => hi.step h) w1.heap.size w2.heap.size ao2 cp2 B m n w3 hS Hm1.out.symm hv.byte (by omega) hv64 (by omega) (Inv.start v n.toNat Hm1.out.symm hv.byte hm2)).mono ?_
        rintro e w4 ⟨rfl, B', m', ao', cap', hI, hS4, hl4, hb4, hm4, hbel4⟩
        have hV : View w4 ao1 B.length B := view_later hown1 hv.byte (hbel3.trans hbel4) (Nat.le_refl _)
        have hB : Below w.heap.size w w4 := hbel1.trans ((hbel3.trans hbel4).mono hbel1.size)
        have hV' : View w4 ao' B'.length B' := view_later hS4.own hb4 (Below.refl w4.heap.size w4) (Nat.le_refl _)
        clear hS hbel1 hbel3 hbel4 hown1 hv ha hm2 hb hb'
        obtain ⟨K, hK⟩ : ∃ K : Nat, K = n.toNat := ⟨_, rfl⟩
        have hsum := hI.sum
        have Hbits : Hid (∀ i, i < 8 * B'.length → bitB B' i = (if i < m then bitB B i else if i < m + K then v.testBit (m + K - 1 - i) else false)) := by
          intro i hi
          rw [hI.bits i hi, hK, show m' = m + n.toNat by omega]
        have ht1 : ((m' : Int) != (m : Int) + (K : Int)) = false := by rw [bne_eq_false_iff_eq]; omega
        have ht2 : ((B'.length : Int) != ((m : Int) + (K : Int) + 7) / 8) = false := by rw [bne_eq_false_iff_eq]; omega
        have hlB : B'.length ≤ 1048600 := by omega
        have hlB2 : m ≤ 8 * B.length := by have := Hm1.out; omega
        have HK : Hid (K = n.toNat) := hK
        have hK64 : K ≤ 64 := by omega
        clear hl4 hsum hI hm4
        go_wp2_with fail
        refine (buf_any w4 hS4).mono ?_
        rintro e w' ⟨rfl, hw'⟩
        subst w'
        clear hK
        go_upto_if 44 with fail
        go_cut [11] (fun k wx => k = .int .i64 (K : Int) ∧ wx = w4)
        case first =>
          by_cases hneg : n < 0
          · go_wp2
            go_meet
            exact ⟨by rw [HK.out, show n.toNat = 0 by omega]; rfl, rfl⟩
          · go_wp2
            go_meet
            exact ⟨by rw [HK.out, show ((n.toNat : Nat) : Int) = n by omega], rfl⟩
        case rest =>
          obtain ⟨rfl, hwc⟩ := hcut
          subst wc
          go_wp2_with fail
          refine (cnt_any w4 hS4).mono ?_
          rintro e w' ⟨rfl, hw'⟩
          subst w'
          go_wp2
          go_loopg [13] (8 * B'.length) (fun gk i wr => wr = w4 ∧ ∃ k : Nat, i = .int .i64 (k : Int) ∧ k ≤ 8 * B'.length ∧ gk = 8 * B'.length - k)
          case atStart => exact ⟨rfl, 0, rfl, Nat.zero_le _, by omega⟩
          case round =>
            obtain ⟨hwr, k, rfl, hk1, rfl⟩ := hrel
            subst wr
            by_cases hlt : k < 8 * B'.length
            · have hbk := Hbits.out k hlt
              have Hbk : Hid (bitB B' k = (if k < m then bitB B k else if k < m + K then v.testBit (m + K - 1 - k) else false)) := hbk
              clear hbk
              by_cases c1 : k < m
              · go_wp2_with fail
                refine (bit_view hV _ k (by omega) (by omega)).mono ?_
                rintro e w'' ⟨rfl, hw''⟩
                subst w''
                go_wp2_with fail
                refine (bit_view hV' _ k hlt (by omega)).mono ?_
                rintro e w'' ⟨rfl, hw''⟩
                subst w''
                rw [Hbk.out, if_pos c1]
                go_wp2
                go_roundg (8 * B'.length - (k + 1))
                case measure => omega
                case rel => exact ⟨rfl, k + 1, by go_num, by omega, rfl⟩
              · by_cases c2 : k < m + K
                · have hbit : bits BinOp.and IntKind.u8 ((v : Int) / 2 ^ (m + K - 1 - k) % 256) 1 = (((v.testBit (m + K - 1 - k)).toNat : Nat) : Int) := want_val v _
                  go_wp2_with fail
                  refine (bit_view hV' _ k hlt (by omega)).mono ?_
                  rintro e w'' ⟨rfl, hw''⟩
                  subst w''
                  rw [Hbk.out, if_neg c1, if_pos c2]
                  go_wp2
                  go_roundg (8 * B'.length - (k + 1))
                  case measure => omega
                  case rel => exact ⟨rfl, k + 1, by go_num, by omega, rfl⟩
                · go_wp2_with fail
                  refine (bit_view hV' _ k hlt (by omega)).mono ?_
                  rintro e w'' ⟨rfl, hw''⟩
                  subst w''
                  rw [Hbk.out, if_neg c1, if_neg c2]
                  go_wp2
                  go_roundg (8 * B'.length - (k + 1))
                  case measure => omega
                  case rel => exact ⟨rfl, k + 1, by go_num, by omega, rfl⟩
            · go_wp2
              go_ret
              exact ⟨rfl, hB⟩
  · go_enter Try.func3, Try.ntmps3
    go_wp2_with fail
    refine (zz7_no _ _ _ _ _ _ _ (by omega)).mono ?_
    rintro e w' ⟨rfl, rfl⟩
    go_wp2
    go_ret
    exact ⟨rfl, Below.refl _ _⟩
end Go.Proofs.Qxb6602842a
