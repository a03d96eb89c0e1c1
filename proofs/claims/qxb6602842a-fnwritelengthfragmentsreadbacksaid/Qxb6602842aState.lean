import Derived.Test.Qxb6602842aRows
import Derived.Test.Qxb6602842aBits
import Derived.WalkKit
import Derived.WalkSpells
import Derived.Lib.SliceRun
import Derived.Laws.BitsAllLaws
import Derived.Deep.AppendLies
import Derived.Deep.QuietTactic
namespace Go.Proofs.Qxb6602842a
open Go.RowKit

/-- The octets B as cells. -/
def octs (B : List Nat) : List Value := B.map fun (z : Nat) => Value.int .u8 (z : Int)

/-- What is known of a slice of octets that is read: its first n cells hold B. -/
structure View (w : World) (a : Option Addr) (n : Nat) (B : List Nat) : Prop where
  len : B.length = n
  byte : ∀ z ∈ B, z < 256
  cell : n ≠ 0 → ∃ b off, a = some ⟨b, off, none⟩ ∧ ∀ i, i < n → w.cell? ⟨b, off + i, none⟩ = some (.int .u8 ((B.getD i 0 : Nat) : Int))

theorem Try.info5 : (Try.prog.info? 5).map (fun i => (i.zero, i.size, i.bytes)) = some (some (.int .u8 0), 1, 1) := by kernel_rfl

theorem oct_lt {B : List Nat} (h : ∀ z ∈ B, z < 256) (i : Nat) : B.getD i 0 < 256 := by
  by_cases hi : i < B.length
  · rw [List.getD_eq_getElem?_getD, List.getElem?_eq_getElem hi]; exact h _ (List.getElem_mem hi)
  · rw [List.getD_eq_getElem?_getD, List.getElem?_eq_none (by omega)]; simp

theorem madeCells_octs (n : Nat) : (madeCells #[Value.int .u8 0] n).toList = octs (List.replicate n 0) := by
  rw [toList_madeCells_one]
  simp [octs]

theorem set_clone (B : List Nat) (k : Nat) (h : k < B.length) : (B.take k ++ List.replicate (B.length - k) 0).set k (B.getD k 0) = B.take (k + 1) ++ List.replicate (B.length - (k + 1)) 0 := by
  apply List.ext_getElem?
  intro j
  rw [List.getElem?_set]
  by_cases e : k = j
  · subst e
    have hk : k < (B.take k ++ List.replicate (B.length - k) 0).length := by simp; omega
    rw [if_pos rfl, if_pos hk, List.getElem?_append_left (by simp; omega), List.getElem?_take, if_pos (by omega), List.getD_eq_getElem?_getD, List.getElem?_eq_getElem h]
    rfl
  · rw [if_neg e]
    by_cases c : j < k
    · rw [List.getElem?_append_left (by simp; omega), List.getElem?_append_left (by simp; omega), List.getElem?_take, List.getElem?_take, if_pos c, if_pos (by omega)]
    · rw [List.getElem?_append_right (by simp; omega), List.getElem?_append_right (by simp; omega)]
      simp only [List.length_take, List.getElem?_replicate]
      by_cases c2 : j < B.length
      · rw [if_pos (by omega), if_pos (by omega)]
      · rw [if_neg (by omega), if_neg (by omega)]

structure St (w : World) (base P : Nat) (ao : Option Addr) (cap : Nat) (B : List Nat) (m : Nat) : Prop where
  box : w.heap[P]? = some (.cells #[.slice ao B.length cap, .int .i64 m] 40 (0, 0))
  own : w.ownsRow base 5 1 (.slice ao B.length cap) B.length (octs B)
  ge : base ≤ P

theorem St.cell0 {w : World} {base P : Nat} {ao : Option Addr} {cap : Nat} {B : List Nat} {m : Nat} (h : St w base P ao cap B m) : w.cell? ⟨P, 0, none⟩ = some (.slice ao B.length cap) := by rw [cell_of_row w P 0 _ _ _ h.box]; rfl
theorem St.cell1 {w : World} {base P : Nat} {ao : Option Addr} {cap : Nat} {B : List Nat} {m : Nat} (h : St w base P ao cap B m) : w.cell? ⟨P, 1, none⟩ = some (.int .i64 m) := by rw [cell_of_row w P 1 _ _ _ h.box]; rfl
theorem St.free {w : World} {base P : Nat} {ao : Option Addr} {cap : Nat} {B : List Nat} {m : Nat} (h : St w base P ao cap B m) (j : Nat) : w.frozen? ⟨P, j, none⟩ = false := frozen_of_row w P j _ _ h.box
theorem St.lt {w : World} {base P : Nat} {ao : Option Addr} {cap : Nat} {B : List Nat} {m : Nat} (h : St w base P ao cap B m) : P < w.heap.size := (Array.getElem?_eq_some_iff.1 h.box).1

theorem St.notOwn {w : World} {base P : Nat} {ao : Option Addr} {cap : Nat} {B : List Nat} {m : Nat} (h : St w base P ao cap B m) : (Value.slice ao B.length cap).ownBlock ≠ some P := by
  intro e
  rcases h.own.2 with ⟨hv, _⟩ | ⟨g, cp, cur, hv, _, hg, _⟩
  · rw [hv] at e; simp [Value.ownBlock] at e
  · rw [hv] at e
    simp [Value.ownBlock] at e
    subst e
    have := h.box
    rw [hg] at this
    simp at this

theorem St.alloc {w : World} {base P : Nat} {ao : Option Addr} {cap : Nat} {B : List Nat} {m : Nat} (h : St w base P ao cap B m) (o : Obj) : St (w.alloc o) base P ao cap B m :=
  ⟨by rw [Below.heap_alloc _ _ _ h.lt]; exact h.box, h.own.alloc o, h.ge⟩

theorem St.drewN {w : World} {base P : Nat} {ao : Option Addr} {cap : Nat} {B : List Nat} {m : Nat} (h : St w base P ao cap B m) (k : Nat) : St (w.drewN k) base P ao cap B m :=
  ⟨h.box, h.own, h.ge⟩

/-- Behind 'w.buf = append(w.buf, 0)'. -/
theorem St.grow {w w1 : World} {base P : Nat} {ao : Option Addr} {cap : Nat} {B : List Nat} {m g cap' : Nat} (h : St w base P ao cap B m)
    (hown : w1.ownsRow base 5 1 (.slice (some ⟨g, 0, none⟩) (B.length + 1) cap') (B.length + 1) (octs B ++ [.int .u8 0])) (hgrow : w.grownBy w1 (Value.slice ao B.length cap).ownBlock) :
    St (w1.setCell ⟨P, 0, none⟩ (.slice (some ⟨g, 0, none⟩) (B.length + 1) cap')) base P (some ⟨g, 0, none⟩) cap' (B ++ [0]) m := by
  have hbox1 : w1.heap[P]? = some (.cells #[.slice ao B.length cap, .int .i64 m] 40 (0, 0)) := by
    rw [hgrow.block P h.lt (fun e => h.notOwn e.symm)]; exact h.box
  have hl : (B ++ [0]).length = B.length + 1 := by simp
  refine ⟨?_, ?_, h.ge⟩
  · rw [hl, heap_setCell_same w1 P 0 _ _ _ hbox1]; rfl
  · rw [hl]
    have e : octs (B ++ [0]) = octs B ++ [.int .u8 0] := by simp [octs]
    rw [e]
    have hne : some P ≠ some g := by
      intro e
      have e' : P = g := by simpa using e
      subst e'
      rcases hown.2 with ⟨hv, _⟩ | ⟨g', cp, cur, hv, _, hg, _⟩
      · simp at hv
      · simp at hv
        rw [hv.1, hg] at hbox1
        simp at hbox1
    refine hown.kept (row := some P) ⟨rfl, rfl, rfl, by simp, fun k _ hk => heap_setCell_other w1 ⟨P, 0, none⟩ k _ (fun e => hk (by simp [e]))⟩ (.inr (fun e => hne e.symm))

/-- Behind a store into the buffer. -/
theorem St.put {w : World} {base P g : Nat} {cap : Nat} {B : List Nat} {m : Nat} (h : St w base P (some ⟨g, 0, none⟩) cap B m) (j x : Nat) :
    St (w.setCell ⟨g, j, none⟩ (.int .u8 (x : Int))) base P (some ⟨g, 0, none⟩) cap (B.set j x) m := by
  have hs := (h.own.stored j (.int .u8 (x : Int))).1
  have hne : P ≠ g := fun e => h.notOwn (by simp [Value.ownBlock, e])
  refine ⟨?_, ?_, h.ge⟩
  · rw [heap_setCell_other w ⟨g, j, none⟩ P _ (by simpa using hne)]
    simpa using h.box
  · simpa [octs, List.map_set] using hs

/-- Behind 'w.bits = ..'. -/
theorem St.count {w : World} {base P : Nat} {ao : Option Addr} {cap : Nat} {B : List Nat} {m : Nat} (h : St w base P ao cap B m) (m' : Nat) :
    St (w.setCell ⟨P, 1, none⟩ (.int .i64 (m' : Int))) base P ao cap B m' := by
  refine ⟨?_, ?_, h.ge⟩
  · rw [heap_setCell_same w P 1 _ _ _ h.box]; rfl
  · exact h.own.kept (row := some P) ⟨rfl, rfl, rfl, by simp, fun k _ hk => heap_setCell_other w ⟨P, 1, none⟩ k _ (fun e => hk (by simp [e]))⟩ (.inr h.notOwn)

theorem St.own_ge {w : World} {base P g : Nat} {cap : Nat} {B : List Nat} {m : Nat} (h : St w base P (some ⟨g, 0, none⟩) cap B m) : base ≤ g := (h.own.lt g rfl).1
theorem chunk_val (v a T : Nat) (hT : T ≤ 8) : bits BinOp.and IntKind.u8 ((v : Int) / 2 ^ a % 256) ((2 ^ T - 1) % 256) = ((v / 2 ^ a % 2 ^ T : Nat) : Int) := by
  have e1 : ((v : Int) / 2 ^ a % 256) = ((v / 2 ^ a % 256 : Nat) : Int) := by simp
  have hp : 0 < 2 ^ T := Nat.pow_pos (by decide)
  have e2 : ((2 : Int) ^ T - 1) % 256 = ((2 ^ T - 1 : Nat) : Int) := by
    have hle : 2 ^ T ≤ 2 ^ 8 := Nat.pow_le_pow_right (by decide) hT
    have c : ((2 : Int) ^ T) = ((2 ^ T : Nat) : Int) := by simp
    rw [c]
    omega
  have hlt : 2 ^ T - 1 < 256 := by
    have hle : 2 ^ T ≤ 2 ^ 8 := Nat.pow_le_pow_right (by decide) hT
    omega
  rw [e1, e2, u8_and_nat _ _ (Nat.mod_lt _ (by decide)) hlt, Nat.and_two_pow_sub_one_eq_mod]
  congr 1
  rw [show (256 : Nat) = 2 ^ T * 2 ^ (8 - T) by rw [← Nat.pow_add, show T + (8 - T) = 8 by omega]]
  exact Nat.mod_mul_right_mod _ _ _

theorem last_val (Z v n U T : Nat) (hZ : Z < 256) (hT : U + T ≤ 8) :
    bits BinOp.or IntKind.u8 (Z : Int) (((v / 2 ^ (n - T) % 2 ^ T : Nat) : Int) * 2 ^ (8 - U - T) % 256) = ((newLast Z v n U T : Nat) : Int) := by
  have hlt : v / 2 ^ (n - T) % 2 ^ T * 2 ^ (8 - U - T) < 256 := by
    have h := newLast_lt 0 v n U T hT (by decide)
    unfold newLast at h
    rw [Nat.zero_or] at h
    exact h
  have e : (((v / 2 ^ (n - T) % 2 ^ T : Nat) : Int) * 2 ^ (8 - U - T) % 256) = ((v / 2 ^ (n - T) % 2 ^ T * 2 ^ (8 - U - T) : Nat) : Int) := by
    rw [show (((v / 2 ^ (n - T) % 2 ^ T : Nat) : Int) * 2 ^ (8 - U - T)) = ((v / 2 ^ (n - T) % 2 ^ T * 2 ^ (8 - U - T) : Nat) : Int) by simp]
    omega
  rw [e, u8_or_nat _ _ hZ hlt]
  rfl
end Go.Proofs.Qxb6602842a
