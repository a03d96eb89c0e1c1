import Derived.Test.Qxb6602842aState
import Derived.Deep.QuietTactic
import Derived.BigQuiet
import Derived.BigRegion
import Derived.Deep.LoopGhost
import Derived.Deep.DeepCutAuto
namespace Go.Proofs.Qxb6602842a
open Go.RowKit

/-- What WriteBits leaves: a writer in good order of which R holds, nothing being left to write. -/
def Wrote (R : List Nat → Nat → Nat → Prop) (base P m : Nat) (w w' : World) : Prop :=
  ∃ B' m' ao' cap', R B' m' 0 ∧ St w' base P ao' cap' B' m' ∧ B'.length = (m' + 7) / 8 ∧ (∀ z ∈ B', z < 256) ∧ m' ≤ m + 64 ∧ Below base w w'

set_option maxHeartbeats 1000000 in
theorem write_any (R : List Nat → Nat → Nat → Prop) (v : Nat) (hstep : Hid (∀ B m n, 0 < n → R B m n → R (stepB B m v n) (m + min (8 - m % 8) n) (n - min (8 - m % 8) n)))
    (base P : Nat) (ao : Option Addr) (cap : Nat) (B : List Nat) (m : Nat) (n : Int) (w : World) (hst : St w base P ao cap B m) (hlen : B.length = (m + 7) / 8) (hbyte : ∀ z ∈ B, z < 256) (hm : m ≤ 16777216) (_hv : v < 18446744073709551616) (hn : n ≤ 64) (hR : R B m n.toNat) :
    Calls Try.prog 11 #[.pointer (some ⟨P, 0, none⟩), .int .u64 (v : Int), .int .i64 n] w fun e w' => e = .returned (.tuple #[]) ∧ Wrote R base P m w w' := by
  obtain ⟨i0, hi, hz0, hz1, hz2⟩ := info_parts Try.info5
  have h1c : ∀ u ∈ [Value.int .u8 0], u.oneCell' = true := by intro u hu; simp at hu; subst hu; rfl
  go_enter Try.func11, Try.ntmps11
  go_wp2
  go_loopg [2] n.toNat (fun gk nn wr => ∃ (B' : List Nat) (m' : Nat) (k : Int) (ao' : Option Addr) (cap' : Nat), nn = .int .i64 k ∧ k.toNat ≤ gk ∧ k ≤ 64 ∧ R B' m' k.toNat ∧ St wr base P ao' cap' B' m' ∧ B'.length = (m' + 7) / 8 ∧ (∀ z ∈ B', z < 256) ∧ m' + k.toNat ≤ m + 64 ∧ Below base w wr)
  case atStart => exact ⟨B, m, n, ao, cap, rfl, Nat.le_refl _, hn, hR, hst, hlen, hbyte, by omega, Below.refl _ _⟩
  case round =>
    clear hst hlen hbyte hR hn
    obtain ⟨B, q, k, ao, cap, rfl, hgk, hk, hR, hst, hlen, hbyte, hq, hbel⟩ := hrel
    by_cases hk0 : 0 < k
    · obtain ⟨kn, rfl⟩ : ∃ kn : Nat, k = (kn : Int) := ⟨k.toNat, by omega⟩
      have hR' := hstep.out B q kn (by omega) (by simpa using hR)
      have HR : Hid (R (stepB B q v kn) (q + min (8 - q % 8) kn) (kn - min (8 - q % 8) kn)) := hR'
      have Hlen : Hid (B.length = (q + 7) / 8) := hlen
      have hll : B.length ≤ 2097160 := by omega
      have hq1 : q ≤ 16777280 := by omega
      clear hR hR' hstep hlen
      have hc1 := hst.cell1
      obtain ⟨U, hU⟩ : ∃ U : Nat, U = q % 8 := ⟨_, rfl⟩
      have HU : Hid (U = q % 8) := hU
      have hU8 : U < 8 := by omega
      obtain ⟨G, hG⟩ : ∃ G : List Nat, G = grownB B q := ⟨_, rfl⟩
      have hGl : G.length = q / 8 + 1 := by rw [hG]; exact grown_len Hlen.out
      have HGb : Hid (∀ z ∈ G, z < 256) := by rw [hG]; exact grown_byte hbyte q
      have HG : Hid (G = grownB B q ∧ G.length = q / 8 + 1) := ⟨hG, hGl⟩
      have hG0 : 0 < G.length := by omega
      have hG1 : G.length ≤ 2097170 := by omega
      clear hU hG hGl
      go_upto_if 17 with fail
      go_cut [6] (fun u wx => u = .int .i64 (U : Int) ∧ ∃ g cap', St wx base P (some ⟨g, 0, none⟩) cap' G q ∧ Below base w wx)
      case first =>
        by_cases hu : U = 0
        · have hu' : ((q : Int) % 8 == 0) = true := by have := HU.out; simp; omega
          have hc0 := hst.cell0
          have hbs : base ≤ (wr.alloc (.cells #[.int .u8 0] 5)).heap.size := by have := hst.ge; have := hst.lt; simp; omega
          have hml : B.length + 1 ≤ maxLen := by unfold maxLen; omega
          go_wp2_with (at_builtin; refine wpList_append_lies _ rfl _ _ 22 rfl base 5 i0 (.int .u8 0) 1 1 Try.underlying22 hi hz0 hz1 hz2 rfl (by decide) _ B.length (octs B) rfl (hst.own.alloc _) _ 1 1 [.int .u8 0] rfl rfl (cell_one_new _ _ _) h1c (by decide) hml (by omega) hbs (wr.heap.size + 1) (by simp) ?_)
          intro g cap' w1 hown hgrow hat hlt
          have hbox1 : w1.heap[P]? = some (.cells #[.slice ao B.length cap, .int .i64 q] 40 (0, 0)) := (hgrow.block P (hst.alloc _).lt (fun e => hst.notOwn e.symm)).trans (hst.alloc _).box
          have hcP : w1.cell? ⟨P, 0, none⟩ = some (.slice ao B.length cap) := by rw [cell_of_row w1 P 0 _ _ _ hbox1]; rfl
          have hfP : w1.frozen? ⟨P, 0, none⟩ = false := frozen_of_row w1 P 0 _ _ hbox1
          have S2 := (hst.alloc _).grow hown hgrow
          have hbel2 : Below base w (w1.setCell ⟨P, 0, none⟩ (.slice (some ⟨g, 0, none⟩) (B.length + 1) cap')) := (((hbel.alloc (by have := hst.ge; have := hst.lt; omega) _).grown hgrow hbs (fun k hk => ((hst.own.lt k hk).1))).setCell hst.ge _)
          clear hown hgrow hat hlt hst hbox1 hbel hc0 hc1 hbs hml
          go_wp2_with fail
          go_meet
          refine ⟨by have := HU.out; congr 1; omega, g, cap', ?_, hbel2⟩
          have e : G = B ++ [0] := by rw [HG.out.1]; unfold grownB; rw [if_pos (by have := HU.out; omega)]
          rw [e]
          exact S2
        · have hu' : ((q : Int) % 8 == 0) = false := by have := HU.out; rw [beq_eq_false_iff_ne]; omega
          have e : G = B := by rw [HG.out.1]; unfold grownB; rw [if_neg (by have := HU.out; omega)]
          go_wp2_with fail
          go_meet
          obtain ⟨g, cp, hv, _, _⟩ := hst.own.form (by rw [← e]; omega)
          simp only [Value.slice.injEq] at hv
          obtain ⟨rfl, _, rfl⟩ := hv
          exact ⟨by have := HU.out; congr 1; omega, g, cap, by rw [e]; exact hst, hbel⟩
      case rest =>
        obtain ⟨rfl, g, cap', hS, hB⟩ := hcut
        clear hst hbel hc1 hll
        obtain ⟨T, hT, hT1, hT2⟩ : ∃ T : Nat, Hid (T = min (8 - U) kn) ∧ 0 < T ∧ T ≤ 8 - U := ⟨_, rfl, by rw [Nat.lt_min]; omega, Nat.min_le_left _ _⟩
        have hT3 : T ≤ kn := by rw [hT.out]; exact Nat.min_le_right _ _
        go_upto_region 4 with fail
        go_cut [7] (fun t wx => t = .int .i64 (T : Int) ∧ wx = wc)
        case first =>
          by_cases hmn : 8 - U ≤ kn
          · have e : T = 8 - U := by rw [hT.out]; exact Nat.min_eq_left hmn
            go_wp2_with fail
            all_goals go_meet
            all_goals exact ⟨by rw [e]; congr 1; omega, rfl⟩
          · have e : T = kn := by rw [hT.out]; exact Nat.min_eq_right (by omega)
            go_wp2_with fail
            all_goals go_meet
            all_goals exact ⟨by rw [e], rfl⟩
        case rest =>
          obtain ⟨rfl, rfl⟩ := hcut
          obtain ⟨C, hC⟩ : ∃ C : Nat, C = v / 2 ^ (kn - T) % 2 ^ T := ⟨_, rfl⟩
          have HC : Hid (C = v / 2 ^ (kn - T) % 2 ^ T) := hC
          clear hC
          go_upto_region 5 with fail
          go_cut [8] (fun c wx => c = .int .u8 (C : Int) ∧ St wx base P (some ⟨g, 0, none⟩) cap' G q ∧ Below base w wx)
          case first =>
            go_quiet (fail)
            go_wp2_with fail
            go_meet
            exact ⟨by rw [chunk_val v _ T (by omega), ← HC.out], hS.drewN nq, ⟨hB.os, hB.tape, hB.output, hB.size, hB.block⟩⟩
          case rest =>
            obtain ⟨rfl, hS, hB⟩ := hcut
            have hc0 := hS.cell0
            have hcl0 := hS.own.cellAt (G.length - 1) (by omega)
            obtain ⟨Z, hZ⟩ : ∃ Z : Nat, Z = G.getD (G.length - 1) 0 := ⟨_, rfl⟩
            have HZ : Hid (Z = G.getD (G.length - 1) 0) := hZ
            have hcl : wc.cell? ⟨g, G.length - 1, none⟩ = some (.int .u8 (Z : Int)) := by
              rw [hcl0, hZ]
              unfold octs
              rw [List.getElem?_map, List.getD_eq_getElem?_getD, List.getElem?_eq_getElem (by omega)]
              rfl
            have hfl := hS.own.frozenAt (G.length - 1)
            have hpos : (1 : Int) ≤ (G.length : Int) := by omega
            clear hcl0 hZ
            go_upto_region 6 with fail
            go_cut [] (fun wx => St wx base P (some ⟨g, 0, none⟩) cap' (G.set (G.length - 1) (newLast Z v kn U T)) q ∧ Below base w wx)
            case first =>
              go_region
              all_goals go_wp2_with fail
              all_goals go_meet
              all_goals
                have eZ : bits BinOp.or IntKind.u8 (Z : Int) ((C : Int) * 2 ^ (8 - U - T) % 256) = ((newLast Z v kn U T : Nat) : Int) := by
                  rw [HC.out]; exact last_val Z v kn U T (by rw [HZ.out]; exact getD_mem_lt HGb.out _) (by omega)
                rw [eZ]
                exact ⟨(hS.put (G.length - 1) (newLast Z v kn U T)).drewN 1, (hB.setCell hS.own_ge _).drew⟩
            case rest =>
              obtain ⟨hS, hB⟩ := hcut
              have hc1 := hS.cell1
              have hf1 := hS.free 1
              have hS2 := hS.count (q + T)
              have hB2 := hB.setCell hS.ge (p := ⟨P, 1, none⟩) (.int .i64 ((q + T : Nat) : Int))
              have e : G.set (G.length - 1) (newLast Z v kn U T) = stepB B q v kn := by
                unfold stepB
                rw [HZ.out, hT.out, HU.out, HG.out.1]
              have HE : Hid (G.set (G.length - 1) (newLast Z v kn U T) = stepB B q v kn) := e
              have hRR := HR.out
              have eT : T = min (8 - q % 8) kn := by rw [hT.out, HU.out]
              rw [← eT] at hRR
              have HT : Hid (T = min (8 - q % 8) kn) := eT
              rw [e] at hS2
              have HR2 : Hid (R (stepB B q v kn) (q + T) (kn - T)) := hRR
              clear e eT hRR hc0 hcl hfl hS hB
              have eqT : ((q + T : Nat) : Int) = (q : Int) + T := by omega
              rw [eqT] at hS2 hB2
              clear eqT
              go_wp2
              have hl2 := stepB_len Hlen.out v (n := kn) (by omega)
              have hb2 := stepB_byte hbyte q v kn
              rw [← HT.out] at hl2
              go_roundg (kn - T)
              case measure => omega
              case rel => exact ⟨stepB B q v kn, q + T, (kn : Int) - T, _, cap', rfl, by omega, by omega, by rw [show ((kn : Int) - T).toNat = kn - T by omega]; exact HR2.out, hS2, hl2, hb2, by omega, hB2⟩
    · have e : k.toNat = 0 := by omega
      rw [e] at hR hq
      clear e
      go_wp2
      go_end0
      exact ⟨rfl, B, q, ao, cap, hR, hst, hlen, hbyte, by omega, hbel⟩
end Go.Proofs.Qxb6602842a
