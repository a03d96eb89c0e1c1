import Derived.Test.Qxb6602842aLeaf
import Derived.Test.Qxb6602842aWrite
import Derived.Test.Qxb6602842aLenPlain
namespace Go.Proofs.Qxb6602842a
open Go.RowKit

/-- A writer whose count of bits is whatever number. -/
structure Raw (w : World) (base P : Nat) (ao : Option Addr) (cap : Nat) (B : List Nat) (x : Int) : Prop where
  box : w.heap[P]? = some (.cells #[.slice ao B.length cap, .int .i64 x] 40 (0, 0))
  own : w.ownsRow base 5 1 (.slice ao B.length cap) B.length (octs B)
  ge : base ≤ P

theorem St.raw {w : World} {base P : Nat} {ao : Option Addr} {cap : Nat} {B : List Nat} {m : Nat} (h : St w base P ao cap B m) : Raw w base P ao cap B (m : Int) := ⟨h.box, h.own, h.ge⟩

theorem Raw.new {w : World} {base : Nat} {ao : Option Addr} {cp : Nat} {B : List Nat} (x : Int) (h : w.ownsRow base 5 1 (.slice ao B.length cp) B.length (octs B)) (hb : base ≤ w.heap.size) :
    Raw (w.alloc (.cells #[.slice ao B.length cp, .int .i64 x] 40)) base w.heap.size ao cp B x :=
  ⟨heap_alloc_new w _, h.alloc _, hb⟩

theorem Raw.count {w : World} {base P : Nat} {ao : Option Addr} {cap : Nat} {B : List Nat} {x : Int} (h : Raw w base P ao cap B x) (m' : Nat) :
    St (w.setCell ⟨P, 1, none⟩ (.int .i64 (m' : Int))) base P ao cap B m' := by
  have hno : (Value.slice ao B.length cap).ownBlock ≠ some P := by
    intro e
    rcases h.own.2 with ⟨hv, _⟩ | ⟨g, cp, cur, hv, _, hg, _⟩
    · rw [hv] at e; simp [Value.ownBlock] at e
    · rw [hv] at e
      simp [Value.ownBlock] at e
      subst e
      have := h.box
      rw [hg] at this
      simp at this
  refine ⟨?_, ?_, h.ge⟩
  · rw [heap_setCell_same w P 1 _ _ _ h.box]; rfl
  · exact h.own.kept (row := some P) ⟨rfl, rfl, rfl, by simp, fun k _ hk => heap_setCell_other w ⟨P, 1, none⟩ k _ (fun e => hk (by simp [e]))⟩ (.inr hno)

theorem align_any {w : World} {base P : Nat} {ao : Option Addr} {cap : Nat} {B : List Nat} {x : Int} (h : Raw w base P ao cap B x) (hl : B.length ≤ 2097152) :
    Calls Try.prog 21 #[.pointer (some ⟨P, 0, none⟩)] w fun e w' => e = .returned (.tuple #[]) ∧ St w' base P ao cap B (8 * B.length) ∧ Below base w w' := by
  have hc0 : w.cell? ⟨P, 0, none⟩ = some (.slice ao B.length cap) := by rw [cell_of_row w P 0 _ _ _ h.box]; rfl
  have hc1 : w.cell? ⟨P, 1, none⟩ = some (.int .i64 x) := by rw [cell_of_row w P 1 _ _ _ h.box]; rfl
  have hf1 : w.frozen? ⟨P, 1, none⟩ = false := frozen_of_row w P 1 _ _ h.box
  have hS := h.count (8 * B.length)
  have hB := (Below.refl base w).setCell (p := ⟨P, 1, none⟩) h.ge (.int .i64 ((8 * B.length : Nat) : Int))
  rw [show ((8 * B.length : Nat) : Int) = (B.length : Int) * 8 by omega] at hS hB
  clear h
  go_enter Try.func21, Try.ntmps21
  go_wp2
  go_end0
  exact ⟨rfl, hS, hB⟩

theorem i64_or_nat (a b : Nat) (ha : a < 9223372036854775808) (hb : b < 9223372036854775808) : bits .or .i64 (a : Int) (b : Int) = ((a ||| b : Nat) : Int) := by
  have hx : a ||| b < 2 ^ 63 := Nat.or_lt_two_pow (by omega) (by omega)
  show IntKind.i64.wrap ((BitVec.ofInt 64 (a : Int) ||| BitVec.ofInt 64 (b : Int)).toNat : Int) = _
  rw [BitVec.toNat_or, ofInt_u64 a (by omega), ofInt_u64 b (by omega), IntKind.wrap_i64]
  omega

theorem or32768 (n : Nat) (h : n < 16384) : bits .or .i64 32768 (n : Int) = ((32768 + n : Nat) : Int) := by
  have := i64_or_nat 32768 n (by decide) (by omega)
  rw [nat_join 15 32768 n (by decide) (by omega)] at this
  exact this
theorem or192 (n : Nat) (h : n ≤ 4) : bits .or .i64 192 (n : Int) = ((192 + n : Nat) : Int) := by
  have := i64_or_nat 192 n (by decide) (by omega)
  rw [nat_join 6 192 n (by decide) (by omega)] at this
  exact this

/-- What writeLength leaves. -/
def Lens (base P : Nat) (B : List Nat) (n : Nat) (w : World) (e : Ending) (w' : World) : Prop :=
  e = .returned (.tuple #[.int .i64 (cnt n : Int), .bool (more n)]) ∧ ∃ ao cap, St w' base P ao cap (B ++ enc n) (8 * (B ++ enc n).length) ∧ Below base w w'

set_option maxRecDepth 100000 in
set_option maxHeartbeats 1000000 in
theorem len_any {w : World} {base P : Nat} {ao : Option Addr} {cap : Nat} {B : List Nat} {x : Int} (h : Raw w base P ao cap B x) (hb : ∀ z ∈ B, z < 256) (hl : B.length ≤ 2097000) (n : Nat) (hn : n ≤ 9223372036854775807) :
    Calls Try.prog 20 #[.pointer (some ⟨P, 0, none⟩), .int .i64 (n : Int)] w (Lens base P B n w) := by
  go_enter Try.func20, Try.ntmps20
  go_wp2_with fail
  refine (align_any h (by omega)).mono ?_
  rintro e w1 ⟨rfl, hS, hB⟩
  clear h
  by_cases c1 : n < 128
  · go_wp2_with fail
    refine (write_any (One B n) n One.step base P ao cap B (8 * B.length) 8 w1 hS (by omega) hb (by omega) (by omega) (by omega) (.inl ⟨rfl, rfl, rfl⟩)).mono ?_
    rintro e w2 ⟨rfl, B', m', ao', cap', hO, hS2, _, _, _, hB2⟩
    go_wp2
    go_ret2
    rcases hO with ⟨h, _⟩ | ⟨_, rfl, rfl⟩
    · cases h
    · refine ⟨?_, ao', cap', ?_, hB.trans hB2⟩
      · rw [show cnt n = n by unfold cnt; rw [if_pos (by omega)], show more n = false by unfold more; simp; omega]
        rfl
      · have e : enc n = [n] := by unfold enc; rw [if_pos c1]
        have e2 : n % 256 = n := by omega
        rw [e2] at hS2
        rw [e, show 8 * (B ++ [n]).length = 8 * B.length + 8 by simp; omega]
        exact hS2
  · by_cases c2 : n < 16384
    · obtain ⟨v, hv⟩ : ∃ v : Nat, v = 32768 + n := ⟨_, rfl⟩
      have ho : bits .or .i64 32768 (n : Int) = (v : Int) := by rw [hv]; exact or32768 n c2
      have hv1 : v ≤ 65535 := by omega
      have Hv : Hid (v = 32768 + n) := hv
      clear hv
      go_wp2_with fail
      refine (write_any (Two B v) v Two.step base P ao cap B (8 * B.length) 16 w1 hS (by omega) hb (by omega) (by omega) (by omega) (.inl ⟨rfl, rfl, rfl⟩)).mono ?_
      rintro e w2 ⟨rfl, B', m', ao', cap', hO, hS2, _, _, _, hB2⟩
      clear ho
      go_wp2
      go_ret2
      rcases hO with ⟨h, _⟩ | ⟨h, _⟩ | ⟨_, rfl, rfl⟩
      · cases h
      · cases h
      · refine ⟨?_, ao', cap', ?_, hB.trans hB2⟩
        · rw [show cnt n = n by unfold cnt; rw [if_pos (by omega)], show more n = false by unfold more; simp; omega]
          rfl
        · have e : enc n = [v / 256 % 256, v % 256] := by
            unfold enc
            rw [if_neg c1, if_pos c2, Hv.out]
            congr 1
            · omega
            · congr 1; omega
          rw [e, show 8 * (B ++ [v / 256 % 256, v % 256]).length = 8 * B.length + 16 by simp; omega]
          exact hS2
    · obtain ⟨q, hq⟩ : ∃ q : Nat, q = min (n / 16384) 4 := ⟨_, rfl⟩
      have hq4 : q ≤ 4 := by rw [hq]; exact Nat.min_le_right _ _
      obtain ⟨v, hv⟩ : ∃ v : Nat, v = 192 + q := ⟨_, rfl⟩
      have ho : bits .or .i64 192 (q : Int) = (v : Int) := by rw [hv]; exact or192 q hq4
      have hv1 : v ≤ 196 := by omega
      have Hv : Hid (v = 192 + q) := hv
      have Hq : Hid (q = min (n / 16384) 4) := hq
      clear hv hq
      go_upto_region 2 with fail
      go_cut [6] (fun t wx => t = .int .i64 (q : Int) ∧ wx = w1)
      case first =>
        by_cases hmn : n / 16384 ≤ 4
        · have e : q = n / 16384 := by rw [Hq.out]; exact Nat.min_eq_left hmn
          have He : Hid (q = n / 16384) := e
          clear e
          go_wp2_with fail
          all_goals go_meet
          all_goals exact ⟨by rw [He.out]; congr 1, rfl⟩
        · have e : q = 4 := by rw [Hq.out]; exact Nat.min_eq_right (by omega)
          have He : Hid (q = 4) := e
          clear e
          go_wp2_with fail
          all_goals go_meet
          all_goals exact ⟨by rw [He.out]; rfl, rfl⟩
      case rest =>
        obtain ⟨rfl, hwc⟩ := hcut
        subst wc
        go_wp2_with fail
        refine (write_any (One B v) v One.step base P ao cap B (8 * B.length) 8 w1 hS (by omega) hb (by omega) (by omega) (by omega) (.inl ⟨rfl, rfl, rfl⟩)).mono ?_
        rintro e w2 ⟨rfl, B', m', ao', cap', hO, hS2, _, _, _, hB2⟩
        clear ho
        go_wp2
        go_ret2
        rcases hO with ⟨h, _⟩ | ⟨_, rfl, rfl⟩
        · cases h
        · refine ⟨?_, ao', cap', ?_, hB.trans hB2⟩
          · rw [show cnt n = q * 16384 by unfold cnt; rw [if_neg (by omega), ← Hq.out], show more n = true by unfold more; simp; omega]
            rw [show ((q * 16384 : Nat) : Int) = (q : Int) * 16384 by omega]
            rfl
          · have e : enc n = [v % 256] := by
              unfold enc
              rw [if_neg c1, if_neg c2, ← Hq.out, Hv.out]
              congr 1
              omega
            rw [e, show 8 * (B ++ [v % 256]).length = 8 * B.length + 8 by simp; omega]
            exact hS2

theorem zlen_any {w : World} {base P : Nat} {ao : Option Addr} {cap : Nat} {B : List Nat} {x : Int} (h : Raw w base P ao cap B x) (hb : ∀ z ∈ B, z < 256) (hl : B.length ≤ 2097000) (n : Nat) (hn : n ≤ 9223372036854775807) :
    Calls Try.prog 18 #[.pointer (some ⟨P, 0, none⟩), .int .i64 (n : Int)] w (Lens base P B n w) := by
  go_enter Try.func18, Try.ntmps18
  go_wp2_with fail
  refine (len_any h hb hl n hn).mono ?_
  rintro e w1 ⟨rfl, h1⟩
  clear h
  go_wp2
  go_ret2
  exact ⟨rfl, h1⟩
end Go.Proofs.Qxb6602842a
