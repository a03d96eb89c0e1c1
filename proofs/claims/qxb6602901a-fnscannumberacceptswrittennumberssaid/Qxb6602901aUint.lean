import Derived.Test.Qxb6602901aBase
import Derived.Test.Qxb6602901aWrit
namespace Go.Proofs.Qxb6602901a
open Go.RowKit

theorem own_below {w w' : World} {base : Nat} {v : Value} {n : Nat} {xs : List Value} (h : w.ownsRow base 5 1 v n xs) (hb : Below w.heap.size w w') : w'.ownsRow base 5 1 v n xs := by
  refine ⟨h.1, ?_⟩
  rcases h.2 with h2 | ⟨g, cap, cur, hv, hg, hh, r⟩
  · exact .inl h2
  · exact .inr ⟨g, cap, cur, hv, hg, by rw [hb.block g (Array.getElem?_eq_some_iff.1 hh).1]; exact hh, r⟩

theorem octs_app (A B : List Nat) : octs (A ++ B) = octs A ++ octs B := by simp [octs]
theorem octs_one (B : List Nat) : ∀ u ∈ octs B, u.oneCell' = true := by
  intro u hu
  obtain ⟨z, _, rfl⟩ := List.mem_map.1 hu
  rfl

theorem arr36 : Try.prog.arrayLen 36 = 20 := by kernel_rfl
theorem elem36 : Try.prog.elem 36 = 5 := by kernel_rfl
theorem slice36 (b k : Nat) (hk : k < 20) (W : World) : Sem.run Try.prog (Instr.sliceAt 36 (.pointer (some ⟨b, 0, none⟩)) (some (.int .i64 (k : Int))) none none) W = .ok (.slice (some ⟨b, k, none⟩) (20 - k) (20 - k)) W := by
  obtain ⟨i0, hi, hz0, hz1, hz2⟩ := info_parts Try.info5
  have h := run_sliceAt_array_l (P := Try.prog) W 36 ⟨b, 0, none⟩ (by rw [arr36, elem36]; exact Try.underlying36) .i64 (k : Int) (by omega) (by rw [arr36]; omega)
  rw [h, elem36, arr36]
  simp [sizeOf, typeInfo, hi, hz1, slicedAt, Addr.add_lit]
  omega

/-- What appending leaves: the slice owns the octets B ++ D. -/
def Appended (base : Nat) (B D : List Nat) (w : World) (e : Ending) (w' : World) : Prop :=
  ∃ ao cp N, e = .returned (.slice ao N cp) ∧ N = (B ++ D).length ∧ w'.ownsRow base 5 1 (.slice ao N cp) N (octs (B ++ D)) ∧ Below base w w'
def UintPost (base : Nat) (B : List Nat) (u : Nat) (w : World) (e : Ending) (w' : World) : Prop := ∃ D, Digits u D ∧ Appended base B D w e w'

set_option maxRecDepth 100000 in
set_option maxHeartbeats 400000 in
theorem uint_any (ao : Option Addr) (cp : Nat) (B : List Nat) (u : Nat) (w : World) (base : Nat) (hown : w.ownsRow base 5 1 (.slice ao B.length cp) B.length (octs B)) (hu : u < 18446744073709551616) (hn : B.length ≤ 100000000) (hbase : base ≤ w.heap.size) :
    Calls Try.prog 14 #[.slice ao B.length cp, .int .u64 (u : Int)] w (UintPost base B u w) := by
  obtain ⟨i0, hi, hz0, hz1, hz2⟩ := info_parts Try.info5
  have Hown : Hid (w.ownsRow base 5 1 (.slice ao B.length cp) B.length (octs B)) := hown
  clear hown
  go_enter Try.func14, Try.ntmps14
  go_wp2
  go_loopg [1, 6] 20 (fun gk s1 s6 wr => ∃ (L : List Nat) (k cur : Nat), gk = k ∧ s1 = .int .u64 (cur : Int) ∧ s6 = .int .i64 (k : Int) ∧ cur ≤ u ∧ Dg u L k cur ∧ wr.heap[w.heap.size]? = some (.cells (octs L).toArray 36 (0, 0)) ∧ Below w.heap.size w wr)
  case atStart => exact ⟨List.replicate 20 0, 20, u, rfl, rfl, rfl, Nat.le_refl _, Dg.start hu, heap_alloc_new w _, (Below.refl _ _).alloc (Nat.le_refl _) _⟩
  case round =>
    obtain ⟨L, k, cur, rfl, rfl, rfl, hcu, hD, hbox, hbel⟩ := hrel
    have hlo := hD.lo
    obtain ⟨k, rfl⟩ : ∃ k', gk = k' + 1 := ⟨gk - 1, by omega⟩
    have hhi := hD.hi
    have hcur : (cur : Int) < 18446744073709551616 := by omega
    have hL := hD.len
    have hc : ∃ v, wr.cell? ⟨w.heap.size, k, none⟩ = some v := by
      rw [cell_of_row wr w.heap.size k _ _ _ hbox]
      exact ⟨_, Array.getElem?_eq_getElem (by simp [octs]; omega)⟩
    obtain ⟨v, hcell⟩ := hc
    have hfr := frozen_of_row wr w.heap.size k _ _ hbox
    have hbox2 := heap_setCell_same wr w.heap.size k _ _ (.int .u8 ((48 + cur % 10 : Nat) : Int)) hbox
    have hbel2 : Below w.heap.size w (wr.setCell ⟨w.heap.size, k, none⟩ (.int .u8 ((48 + cur % 10 : Nat) : Int))) := hbel.setCell (Nat.le_refl _) _
    have hbox3 : (wr.setCell ⟨w.heap.size, k, none⟩ (.int .u8 ((48 + cur % 10 : Nat) : Int))).heap[w.heap.size]? = some (.cells (octs (L.set k (48 + cur % 10))).toArray 36 (0, 0)) := by
      rw [hbox2]
      simp [octs, List.map_set]
    rw [show ((48 + cur % 10 : Nat) : Int) = 48 + (cur : Int) % 10 by omega] at hbel2 hbox3
    have HD : Hid (Dg u L (k + 1) cur) := hD
    clear hbox2 hbox hD hL hlo hbel
    rw [show ((k + 1 : Nat) : Int) = (k : Int) + 1 by omega]
    by_cases hc0 : cur / 10 = 0
    · have t : ((cur : Int) / 10 == 0) = true := by rw [beq_iff_eq]; omega
      have Hc0 : Hid (cur / 10 = 0) := hc0
      clear hc0
      have HDg : Hid (Digits u ((L.set k (48 + cur % 10)).drop k)) := HD.out.last Hc0.out
      have hk20 : k < 20 := by omega
      have hlD : ((L.set k (48 + cur % 10)).drop k).length = 20 - k := by have := HD.out.len; simp; omega
      have hown1 := own_below Hown.out hbel2
      have hsz1 : w.heap.size ≤ (wr.setCell ⟨w.heap.size, k, none⟩ (.int .u8 (48 + (cur : Int) % 10))).heap.size := hbel2.size
      have hnews : ∀ j u, (octs ((L.set k (48 + cur % 10)).drop k))[j]? = some u → (wr.setCell ⟨w.heap.size, k, none⟩ (.int .u8 (48 + (cur : Int) % 10))).cell? ((⟨w.heap.size, k, none⟩ : Addr).add j) = some u := by
        intro j u hj
        rw [Addr.add_lit, cell_of_row _ w.heap.size (k + j) _ _ _ hbox3]
        unfold octs at hj ⊢
        rw [List.map_drop, List.getElem?_drop] at hj
        simpa using hj
      generalize (L.set k (48 + cur % 10)).drop k = D at *
      generalize hW1 : wr.setCell ⟨w.heap.size, k, none⟩ (.int .u8 (48 + (cur : Int) % 10)) = W1 at hown1 hsz1 hnews hbel2
      have hsl := fun W => slice36 w.heap.size k hk20 W
      have hm : B.length + (20 - k) ≤ maxLen := by unfold maxLen; omega
      have hlo2 : (octs D).length = (20 - k) * 1 := by unfold octs; simp; omega
      have hbW : base ≤ W1.heap.size := by omega
      have HD1 : Hid (D.length = 20 - k) := hlD
      clear hbox3 HD hlD
      go_wp2_with (at_builtin; refine wpList_append_lies _ rfl _ _ 22 rfl base 5 i0 (.int .u8 0) 1 1 Try.underlying22 hi hz0 hz1 hz2 rfl (by decide) _ B.length (octs B) rfl hown1 ⟨w.heap.size, k, none⟩ (20 - k) _ (octs D) rfl hlo2 hnews (octs_one D) (by omega) hm (by omega) hbW W1.heap.size rfl ?_)
      intro g cap w1 hown' hgrow hat hlt
      have hB : Below base w w1 := ((hbel2.mono hbase).grown hgrow hbW (fun k hk => (Hown.out.lt k hk).1))
      have HP : Hid (w1.ownsRow base 5 1 (.slice (some ⟨g, 0, none⟩) (B.length + (20 - k)) cap) (B.length + (20 - k)) (octs (B ++ D))) := by rw [octs_app]; exact hown'
      clear hown' hgrow hat hlt hnews hown1 hsl hbel2
      go_wp2
      go_ret
      have el : (B ++ D).length = B.length + (20 - k) := by rw [List.length_append, HD1.out]
      exact ⟨D, HDg.out, some ⟨g, 0, none⟩, cap, B.length + (20 - k), rfl, el.symm, HP.out, hB⟩
    · have t : ((cur : Int) / 10 == 0) = false := by rw [beq_eq_false_iff_ne]; omega
      have HN : Hid (Dg u (L.set k (48 + cur % 10)) k (cur / 10)) := HD.out.next hc0
      clear hc0
      go_wp2
      go_roundg k
      case measure => omega
      case rel => exact ⟨_, k, cur / 10, rfl, by congr 1, rfl, by omega, HN.out, hbox3, hbel2⟩

/-- One octet appended, whatever the walk stands at: as a lemma on what is owned. -/
theorem own_snoc {w1 : World} {base : Nat} {v : Value} {N : Nat} {B : List Nat} {c : Nat} (h : w1.ownsRow base 5 1 v N (octs B ++ [.int .u8 (c : Int)])) : w1.ownsRow base 5 1 v N (octs (B ++ [c])) := by
  have e : octs (B ++ [c]) = octs B ++ [.int .u8 (c : Int)] := by simp [octs]
  rw [e]
  exact h

theorem uint_at (ao : Option Addr) (cp n : Nat) (B : List Nat) (u : Nat) (x : Int) (w : World) (base : Nat) (hx : x = (u : Int)) (hB : n = B.length) (hown : w.ownsRow base 5 1 (.slice ao n cp) n (octs B)) (hu : u < 18446744073709551616) (hn : B.length ≤ 100000000) (hbase : base ≤ w.heap.size) :
    Calls Try.prog 14 #[.slice ao n cp, .int .u64 x] w (UintPost base B u w) := by
  subst hB; subst hx
  exact uint_any ao cp B u w base hown hu hn hbase

theorem neg_wrap (n : Int) (h0 : -9223372036854775808 ≤ n) (h1 : n < 0) : IntKind.u64.wrap (-IntKind.u64.wrap n) = -n := by
  rw [IntKind.wrap_u64, IntKind.wrap_u64]; omega
theorem pos_wrap (n : Int) (h0 : 0 ≤ n) (h1 : n ≤ 9223372036854775807) : IntKind.u64.wrap n = n := by
  rw [IntKind.wrap_u64]; omega

def IntPost (base : Nat) (B : List Nat) (n : Int) (w : World) (e : Ending) (w' : World) : Prop := ∃ X, IntText n X ∧ Appended base B X w e w'

set_option maxRecDepth 100000 in
set_option maxHeartbeats 400000 in
theorem int_any (ao : Option Addr) (cp : Nat) (B : List Nat) (n : Int) (w : World) (base : Nat) (hown : w.ownsRow base 5 1 (.slice ao B.length cp) B.length (octs B)) (hn0 : -9223372036854775808 ≤ n) (hn1 : n ≤ 9223372036854775807) (hB : B.length ≤ 10000000) (hbase : base ≤ w.heap.size) :
    Calls Try.prog 13 #[.slice ao B.length cp, .int .i64 n] w (IntPost base B n w) := by
  obtain ⟨i0, hi, hz0, hz1, hz2⟩ := info_parts Try.info5
  have h1c : ∀ u ∈ [Value.int .u8 45], u.oneCell' = true := by intro u hu; simp at hu; subst hu; rfl
  by_cases hneg : n < 0
  · obtain ⟨u, hu⟩ : ∃ u : Nat, (u : Int) = -n := ⟨n.natAbs, by omega⟩
    have hml : B.length + 1 ≤ maxLen := by unfold maxLen; omega
    have hbs : base ≤ (w.alloc (.cells #[.int .u8 45] 5)).heap.size := by simp; omega
    have Hu : Hid ((u : Int) = -n) := hu
    clear hu
    go_enter Try.func13, Try.ntmps13
    go_wp2_with (at_builtin; refine wpList_append_lies _ rfl _ _ 22 rfl base 5 i0 (.int .u8 0) 1 1 Try.underlying22 hi hz0 hz1 hz2 rfl (by decide) _ B.length (octs B) rfl (hown.alloc _) _ 1 1 [.int .u8 45] rfl rfl (cell_one_new _ _ _) h1c (by decide) hml (by omega) hbs (w.heap.size + 1) (by simp) ?_)
    intro g cap w1 hown' hgrow hat hlt
    have hB1 : Below base w w1 := (((Below.refl base w).alloc hbase _).grown hgrow hbs (fun k hk => (hown.lt k hk).1))
    have hw1 : base ≤ w1.heap.size := Nat.le_trans hbase hB1.size
    have hown2 := own_snoc hown'
    clear hown' hgrow hat hlt hbs hml hown
    go_wp2_with fail
    refine (uint_at _ _ _ (B ++ [45]) u _ w1 base (by rw [Hu.out]; exact neg_wrap n hn0 hneg) (by simp) hown2 (by have := Hu.out; omega) (by simp; omega) hw1).mono ?_
    rintro e w2 ⟨D, hD, ao2, cp2, N, rfl, hN, hown3, hbel3⟩
    have e1 : B ++ [45] ++ D = B ++ (45 :: D) := by simp
    rw [e1] at hown3 hN
    have HN : Hid (N = (B ++ (45 :: D)).length) := hN
    have Hx : Hid (IntText n (45 :: D)) := ⟨D, by rw [show n.natAbs = u by have := Hu.out; omega]; exact hD, by rw [if_pos hneg]⟩
    clear hD hown2 e1 hN
    go_wp2
    go_ret
    exact ⟨45 :: D, Hx.out, ao2, cp2, N, rfl, HN.out, hown3, hB1.trans hbel3⟩
  · obtain ⟨u, rfl⟩ : ∃ u : Nat, n = (u : Int) := ⟨n.toNat, by omega⟩
    go_enter Try.func13, Try.ntmps13
    go_wp2_with fail
    refine (uint_at _ _ _ B u _ w base (by first | rfl | exact pos_wrap u (by omega) hn1) rfl hown (by omega) (by omega) hbase).mono ?_
    rintro e w2 ⟨D, hD, ao2, cp2, N, rfl, hN, hown3, hbel3⟩
    have HN : Hid (N = (B ++ D).length) := hN
    have Hx : Hid (IntText (u : Int) D) := ⟨D, by simpa using hD, by rw [if_neg (by omega)]⟩
    clear hD hown hN
    go_wp2
    go_ret
    exact ⟨D, Hx.out, ao2, cp2, N, rfl, HN.out, hown3, hbel3⟩

theorem int_at (ao : Option Addr) (cp m : Nat) (B : List Nat) (n : Int) (w : World) (base : Nat) (hm : m = B.length) (hown : w.ownsRow base 5 1 (.slice ao m cp) m (octs B)) (hn0 : -9223372036854775808 ≤ n) (hn1 : n ≤ 9223372036854775807) (hB : B.length ≤ 10000000) (hbase : base ≤ w.heap.size) :
    Calls Try.prog 13 #[.slice ao m cp, .int .i64 n] w (IntPost base B n w) := by
  subst hm
  exact int_any ao cp B n w base hown hn0 hn1 hB hbase
end Go.Proofs.Qxb6602901a
