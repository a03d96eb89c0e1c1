import Derived.Test.Qxb6602901aRows
import Derived.WalkKit
import Derived.WalkSpells
import Derived.Lib.SliceRun
import Derived.Laws.BitsAllLaws
import Derived.Deep.AppendLies
import Derived.Deep.QuietTactic
import Derived.Deep.LoopGhost
import Derived.OpenShut
namespace Go.Proofs.Qxb6602901a
open Go.RowKit

/-- The octets B as cells. -/
def octs (B : List Nat) : List Value := B.map fun (z : Nat) => Value.int .u8 (z : Int)

/-- What is known of a slice of octets that is read: its first n cells hold B. -/
structure View (w : World) (a : Option Addr) (n : Nat) (B : List Nat) : Prop where
  len : B.length = n
  byte : ∀ z ∈ B, z < 256
  cell : n ≠ 0 → ∃ b off, a = some ⟨b, off, none⟩ ∧ ∀ i, i < n → w.cell? ⟨b, off + i, none⟩ = some (.int .u8 ((B.getD i 0 : Nat) : Int))

theorem Try.info5 : (Try.prog.info? 5).map (fun i => (i.zero, i.size, i.bytes)) = some (some (.int .u8 0), 1, 1) := by kernel_rfl

theorem oct_lt {B : List Nat} (h : ∀ z ∈ B, z < 256) (i : Nat) : B.getD i 0 < 256 := by
  by_cases hi : i < B.length
  · rw [List.getD_eq_getElem?_getD, List.getElem?_eq_getElem hi]; exact h _ (List.getElem_mem hi)
  · rw [List.getD_eq_getElem?_getD, List.getElem?_eq_none (by omega)]; simp

theorem madeCells_octs (n : Nat) : (madeCells #[Value.int .u8 0] n).toList = octs (List.replicate n 0) := by
  rw [toList_madeCells_one]
  simp [octs]

theorem set_clone (B : List Nat) (k : Nat) (h : k < B.length) : (B.take k ++ List.replicate (B.length - k) 0).set k (B.getD k 0) = B.take (k + 1) ++ List.replicate (B.length - (k + 1)) 0 := by
  apply List.ext_getElem?
  intro j
  rw [List.getElem?_set]
  by_cases e : k = j
  · subst e
    have hk : k < (B.take k ++ List.replicate (B.length - k) 0).length := by simp; omega
    rw [if_pos rfl, if_pos hk, List.getElem?_append_left (by simp; omega), List.getElem?_take, if_pos (by omega), List.getD_eq_getElem?_getD, List.getElem?_eq_getElem h]
    rfl
  · rw [if_neg e]
    by_cases c : j < k
    · rw [List.getElem?_append_left (by simp; omega), List.getElem?_append_left (by simp; omega), List.getElem?_take, List.getElem?_take, if_pos c, if_pos (by omega)]
    · rw [List.getElem?_append_right (by simp; omega), List.getElem?_append_right (by simp; omega)]
      simp only [List.length_take, List.getElem?_replicate]
      by_cases c2 : j < B.length
      · rw [if_pos (by omega), if_pos (by omega)]
      · rw [if_neg (by omega), if_neg (by omega)]

set_option maxHeartbeats 400000 in
theorem clone_any (a : Option Addr) (n cap : Nat) (B : List Nat) (w : World) (hv : View w a n B) (hn : n ≤ 1048576) (ha : a = none → n = 0) :
    Calls Try.prog 8 #[.slice a n cap] w fun e w' => ∃ ao cp, e = .returned (.slice ao n cp) ∧ w'.ownsRow w.heap.size 5 1 (.slice ao n cp) n (octs B) ∧ Below w.heap.size w w' := by
  have qT : ∀ (w : World) (a : Option Addr) (n c n' c' : Nat), (binOp .eql 22 (.slice a n c) (.slice none n' c')).run Try.prog w = .ok (.bool a.isNone) w := fun w a n c n' c' => Lib.run_eql_slice_nil w _ _ a n c n' c' Try.underlying22
  cases a with
  | none =>
    obtain rfl := ha rfl
    have hB : B = [] := List.eq_nil_of_length_eq_zero hv.len
    subst hB
    clear hv ha
    go_enter Try.func8, Try.ntmps8
    go_wp2
    go_ret
    exact ⟨_, _, rfl, World.ownsRow_nil _ _ _ _, Below.refl _ _⟩
  | some x =>
    clear ha
    obtain ⟨i0, hi, hz0, hz1, hz2⟩ := info_parts Try.info5
    obtain ⟨hlen, hbyte, hcell⟩ := hv
    have hm : n ≤ maxLen := by unfold maxLen; omega
    have hb2 : i0.bytes * n ≤ 281474976710656 := by rw [hz2]; omega
    go_enter Try.func8, Try.ntmps8
    go_wp2_with (at_make; refine wpList_make_full _ rfl _ _ 22 rfl w.heap.size 5 i0 (.int .u8 0) 1 Try.underlying22 hi hz0 hz1 _ _ _ _ n rfl rfl rfl rfl hb2 hm (Nat.le_refl _) ?_)
    intro w1 hown hgrow
    rw [madeCells_octs] at hown
    have hbel : Below w.heap.size w w1 := (Below.refl _ _).grown hgrow (Nat.le_refl _) (by simp)
    have hw1 : w.heap.size ≤ w1.heap.size := hbel.size
    clear hgrow
    go_wp2
    go_loopw [4] (fun i wr => ∃ k : Nat, k ≤ n ∧ i = .int .i64 k ∧ wr.ownsRow w.heap.size 5 1 (.slice (some ⟨w.heap.size, 0, none⟩) n n) n (octs (B.take k ++ List.replicate (n - k) 0)) ∧ Below w.heap.size w wr) (fun i _ => n - (intOf i).toNat)
    case atStart => exact ⟨0, Nat.zero_le _, rfl, by simpa using hown, hbel⟩
    case round =>
      obtain ⟨k, hk, rfl, hown, hbel⟩ := hrel
      by_cases hlt : k < n
      · obtain ⟨b, off, he, hc⟩ := hcell (by omega)
        simp only [Option.some.injEq] at he
        subst he
        have hc1 : wr.cell? ⟨b, off + k, none⟩ = some (.int .u8 ((B.getD k 0 : Nat) : Int)) := (hbel.cell (World.block_lt_of_cell? w _ (hc k hlt))).trans (hc k hlt)
        have hs := set_clone B k (by omega)
        generalize B.getD k 0 = z at hc1 hs
        have hf := hown.frozenAt k
        have hst := hown.cellAt k (by omega)
        have hst' : ∃ u, wr.cell? ⟨w.heap.size, k, none⟩ = some u := ⟨_, hst.trans (List.getElem?_eq_getElem (by have := hown.1; omega))⟩
        obtain ⟨u, hu⟩ := hst'
        have hown2 := (hown.stored k (.int .u8 (z : Int))).1
        have hbel2 : Below w.heap.size w (wr.setCell ⟨w.heap.size, k, none⟩ (.int .u8 (z : Int))) := hbel.setCell (Nat.le_refl _) _
        have HO : (wr.setCell ⟨w.heap.size, k, none⟩ (.int .u8 (z : Int))).ownsRow w.heap.size 5 1 (.slice (some ⟨w.heap.size, 0, none⟩) n n) n (octs (B.take (k + 1) ++ List.replicate (n - (k + 1)) 0)) := by
          rw [← hlen] at hown2 ⊢
          rw [← hs]
          unfold octs at hown2 ⊢
          rw [List.map_set]
          exact hown2
        clear hown hst hown2 hcell hc hs
        go_wp2
        go_roundw
        case rel => exact ⟨k + 1, by omega, by go_num, HO, hbel2⟩
        case measure => simp [intOf]; omega
      · have hkn : k = n := by omega
        subst hkn
        have hown' : wr.ownsRow w.heap.size 5 1 (.slice (some ⟨w.heap.size, 0, none⟩) k k) k (octs B) := by
          have e := hown
          rw [Nat.sub_self, List.replicate_zero, List.append_nil, List.take_of_length_le (by omega)] at e
          exact e
        clear hown hcell
        go_wp2
        go_ret
        exact ⟨_, _, rfl, hown', hbel⟩

/-- A slice that the call owns reads as what it holds, in every later world that has kept it. -/
theorem view_later {w w' : World} {base S : Nat} {ao : Option Addr} {n cp : Nat} {B : List Nat} (h : w.ownsRow base 5 1 (.slice ao n cp) n (octs B)) (hb : ∀ z ∈ B, z < 256) (hbel : Below S w w') (hS : w.heap.size ≤ S) : View w' ao n B := by
  have hl : B.length = n := by have := h.1; simpa [octs] using this
  refine ⟨hl, hb, fun hn => ?_⟩
  obtain ⟨g, cap, hv, hg, hlt⟩ := h.form (by omega)
  simp only [Value.slice.injEq] at hv
  obtain ⟨rfl, _, rfl⟩ := hv
  refine ⟨g, 0, rfl, fun i hi => ?_⟩
  rw [Nat.zero_add, hbel.cell (p := ⟨g, i, none⟩) (by show g < S; omega), h.cellAt i (by omega)]
  unfold octs
  rw [List.getElem?_map, List.getD_eq_getElem?_getD, List.getElem?_eq_getElem (by omega)]
  rfl

theorem own_nil {w : World} {base : Nat} {ao : Option Addr} {n cp : Nat} {B : List Nat} (h : w.ownsRow base 5 1 (.slice ao n cp) n (octs B)) : ao = none → n = 0 := by
  rintro rfl
  rcases h.2 with ⟨hv, h0⟩ | ⟨g, cap, cur, hv, _⟩
  · exact h0
  · simp at hv

theorem view_of_row {w : World} {a : Option Addr} {len cap : Nat} {zs : List Int}
    (h : (a = none ∧ len = 0 ∧ cap = 0 ∧ zs = []) ∨ ∃ x, a = some x ∧ len ≤ cap ∧ cap ≤ maxLen ∧ zs.length = cap ∧ (∀ i, i < zs.length → w.cell? (x.add i) = some (.int .u8 (zs.getD i 0))) ∧ ∀ n ∈ zs, (Lit.int .u8 n).wf = true) :
    View w a len ((zs.take len).map Int.toNat) ∧ (a = none → len = 0) := by
  rcases h with ⟨rfl, rfl, rfl, rfl⟩ | ⟨x, rfl, hl, hm, hz, hcell, hwz⟩
  · exact ⟨⟨rfl, by simp, fun h => absurd rfl h⟩, fun _ => rfl⟩
  · have hb : ∀ n ∈ zs, 0 ≤ n ∧ n ≤ 255 := fun n hn => bounds_u8 (hwz n hn)
    refine ⟨⟨by simp; omega, ?_, ?_⟩, fun h => by cases h⟩
    · intro z hz'
      obtain ⟨n, hn, rfl⟩ := List.mem_map.1 hz'
      have := hb n (List.mem_of_mem_take hn)
      omega
    · intro hn
      obtain ⟨b, off, spot⟩ := x
      have hspot : spot = none := by simpa [Addr.add] using World.cell?_spot (hcell 0 (by omega))
      subst hspot
      refine ⟨b, off, rfl, fun i hi => ?_⟩
      have hc := hcell i (by omega)
      rw [Addr.add_lit] at hc
      rw [hc]
      have hi' : i < zs.length := by omega
      have e : ((((zs.take len).map Int.toNat).getD i 0 : Nat) : Int) = zs.getD i 0 := by
        rw [List.getD_eq_getElem?_getD, List.getD_eq_getElem?_getD, List.getElem?_map, List.getElem?_take, if_pos hi, List.getElem?_eq_getElem hi']
        have := hb _ (List.getElem_mem hi')
        simp
        omega
      rw [e]

theorem own_cap {w : World} {base g n cap : Nat} {xs : List Value} (h : w.ownsRow base 5 1 (.slice (some ⟨g, 0, none⟩) n cap) n xs) : n ≤ cap := by
  rcases h.2 with ⟨hv, _⟩ | ⟨g', cp, cur, hv, _, _, hc, _⟩
  · simp at hv
  · simp only [Value.slice.injEq] at hv
    obtain ⟨_, _, rfl⟩ := hv
    exact hc

/-- What the law's walk ends in. -/
def Fine (w : World) (e : Ending) (w' : World) : Prop := e = .returned (.bool true) ∧ Below w.heap.size w w'

end Go.Proofs.Qxb6602901a
