import Derived.Test.Qxb6603396aBytes
import Derived.OpenShut
import Derived.Lib.SmallJoins
import Derived.Deep.AppendLies
namespace Go.Proofs.Qxb6603396a
open Go.RowKit Ieee

theorem run_storef (P : Program) (w : World) (a : Addr) (m : Mode) (k : FloatKind) (n : Nat) : (store a (.float k n) m).run P w = stored P w a (.float k n) m := run_store P w a _ m rfl
attribute [local go_sem] run_storef

/-- What a clone leaves. -/
def CloneOf (E : TypeId) (cs : List Value) (a : Option Addr) (n : Nat) (w : World) (e : Ending) (w' : World) : Prop :=
  ∃ ao cp, e = .returned (.slice ao n cp) ∧ w'.ownsRow w.heap.size E 1 (.slice ao n cp) n cs ∧ Below w.heap.size w w' ∧ ao.isNone = a.isNone

theorem Vw.nil {α : Type} {f : α → Value} {d : α} {w : World} {a : Option Addr} {xs : List α} (h : Vw f d w a 0 xs) : xs = [] := List.eq_nil_of_length_eq_zero h.len
theorem set_clone {α : Type} (d : α) (B : List α) (k : Nat) (h : k < B.length) : (B.take k ++ List.replicate (B.length - k) d).set k (B.getD k d) = B.take (k + 1) ++ List.replicate (B.length - (k + 1)) d := by
  apply List.ext_getElem?
  intro j
  rw [List.getElem?_set]
  by_cases e : k = j
  · subst e
    have hk : k < (B.take k ++ List.replicate (B.length - k) d).length := by simp; omega
    rw [if_pos rfl, if_pos hk, List.getElem?_append_left (by simp; omega), List.getElem?_take, if_pos (by omega), List.getD_eq_getElem?_getD, List.getElem?_eq_getElem h]
    rfl
  · rw [if_neg e]
    by_cases c : j < k
    · rw [List.getElem?_append_left (by simp; omega), List.getElem?_append_left (by simp; omega), List.getElem?_take, List.getElem?_take, if_pos c, if_pos (by omega)]
    · rw [List.getElem?_append_right (by simp; omega), List.getElem?_append_right (by simp; omega)]
      simp only [List.length_take, List.getElem?_replicate]
      by_cases c2 : j < B.length
      · rw [if_pos (by omega), if_pos (by omega)]
      · rw [if_neg (by omega), if_neg (by omega)]

theorem Try.info3' : (Try.prog.info? 3).map (fun i => (i.zero, i.size, i.bytes)) = some (some (.int .i64 0), 1, 8) := by kernel_rfl
theorem Try.info21' : (Try.prog.info? 21).map (fun i => (i.zero, i.size, i.bytes)) = some (some (.int .i32 0), 1, 4) := by kernel_rfl
theorem Try.info22' : (Try.prog.info? 22).map (fun i => (i.zero, i.size, i.bytes)) = some (some (.float .f64 0), 1, 8) := by kernel_rfl

set_option maxHeartbeats 400000 in
theorem cloneInts_any (a : Option Addr) (n cap : Nat) (B : List Int) (w : World) (hv : Vw (.int .i64) 0 w a n B) (hn : n ≤ 1048576) (ha : a = none → n = 0) :
    Calls Try.prog 14 #[.slice a n cap] w (CloneOf 3 (B.map (.int .i64)) a n w) := by
  have qT : ∀ (w : World) (a : Option Addr) (n c n' c' : Nat), (binOp .eql 40 (.slice a n c) (.slice none n' c')).run Try.prog w = .ok (.bool a.isNone) w := fun w a n c n' c' => Lib.run_eql_slice_nil w _ _ a n c n' c' Try.underlying40
  cases a with
  | none =>
    obtain rfl := ha rfl
    have hB : B = [] := hv.nil
    subst hB
    clear hv ha
    go_enter Try.func14, Try.ntmps14
    go_wp2
    go_ret
    exact ⟨_, _, rfl, World.ownsRow_nil _ _ _ _, Below.refl _ _, rfl⟩
  | some x =>
    clear ha
    obtain ⟨i0, hi, hz0, hz1, hz2⟩ := info_parts Try.info3'
    obtain ⟨hlen, hcell⟩ := hv
    have hm : n ≤ maxLen := by unfold maxLen; omega
    have hb2 : i0.bytes * n ≤ 281474976710656 := by rw [hz2]; omega
    go_enter Try.func14, Try.ntmps14
    go_wp2_with (at_make; refine wpList_make_full _ rfl _ _ 40 rfl w.heap.size 3 i0 (.int .i64 0) 1 Try.underlying40 hi hz0 hz1 _ _ _ _ n rfl rfl rfl rfl hb2 hm (Nat.le_refl _) ?_)
    intro w1 hown hgrow
    rw [show (madeCells #[.int .i64 0] n).toList = (List.replicate n (0 : Int)).map (.int .i64) by rw [toList_madeCells_one]; simp] at hown
    have hbel : Below w.heap.size w w1 := (Below.refl _ _).grown hgrow (Nat.le_refl _) (by simp)
    have hw1 : w.heap.size ≤ w1.heap.size := hbel.size
    clear hgrow
    go_wp2
    go_loopg [4] n (fun gk i wr => ∃ k : Nat, k ≤ n ∧ i = .int .i64 (k : Int) ∧ gk = n - k ∧ wr.ownsRow w.heap.size 3 1 (.slice (some ⟨w.heap.size, 0, none⟩) n n) n ((B.take k ++ List.replicate (n - k) 0).map (.int .i64)) ∧ Below w.heap.size w wr)
    case atStart => exact ⟨0, Nat.zero_le _, rfl, rfl, by simpa using hown, hbel⟩
    case round =>
      obtain ⟨k, hk, rfl, rfl, hown, hbel⟩ := hrel
      by_cases hlt : k < n
      · obtain ⟨b, off, he, hc⟩ := hcell (by omega)
        simp only [Option.some.injEq] at he
        subst he
        have hc1 : wr.cell? ⟨b, off + k, none⟩ = some (.int .i64 (B.getD k 0)) := (hbel.cell (World.block_lt_of_cell? w _ (hc k hlt))).trans (hc k hlt)
        have hs := set_clone 0 B k (by omega)
        generalize B.getD k 0 = z at hc1 hs
        have hf := hown.frozenAt k
        have hst := hown.cellAt k (by omega)
        have hst' : ∃ u, wr.cell? ⟨w.heap.size, k, none⟩ = some u := ⟨_, hst.trans (List.getElem?_eq_getElem (by have := hown.1; omega))⟩
        obtain ⟨u, hu⟩ := hst'
        have hown2 := (hown.stored k (.int .i64 z)).1
        have hbel2 : Below w.heap.size w (wr.setCell ⟨w.heap.size, k, none⟩ (.int .i64 z)) := hbel.setCell (Nat.le_refl _) _
        have HO : (wr.setCell ⟨w.heap.size, k, none⟩ (.int .i64 z)).ownsRow w.heap.size 3 1 (.slice (some ⟨w.heap.size, 0, none⟩) n n) n ((B.take (k + 1) ++ List.replicate (n - (k + 1)) 0).map (.int .i64)) := by
          rw [← hlen] at hown2 ⊢
          rw [← hs, List.map_set]
          exact hown2
        clear hown hst hown2 hcell hc hs
        go_wp2
        go_roundg (n - (k + 1))
        case measure => omega
        case rel => exact ⟨k + 1, by omega, by go_num, rfl, HO, hbel2⟩
      · have hkn : k = n := by omega
        subst hkn
        have hown' : wr.ownsRow w.heap.size 3 1 (.slice (some ⟨w.heap.size, 0, none⟩) k k) k (B.map (.int .i64)) := by
          have e := hown
          rw [Nat.sub_self, List.replicate_zero, List.append_nil, List.take_of_length_le (by omega)] at e
          exact e
        clear hown hcell
        go_wp2
        go_ret
        exact ⟨_, _, rfl, hown', hbel, rfl⟩

set_option maxHeartbeats 400000 in
theorem cloneI32_any (a : Option Addr) (n cap : Nat) (B : List Int) (w : World) (hv : Vw (.int .i32) 0 w a n B) (hn : n ≤ 1048576) (ha : a = none → n = 0) :
    Calls Try.prog 15 #[.slice a n cap] w (CloneOf 21 (B.map (.int .i32)) a n w) := by
  have qT : ∀ (w : World) (a : Option Addr) (n c n' c' : Nat), (binOp .eql 41 (.slice a n c) (.slice none n' c')).run Try.prog w = .ok (.bool a.isNone) w := fun w a n c n' c' => Lib.run_eql_slice_nil w _ _ a n c n' c' Try.underlying41
  cases a with
  | none =>
    obtain rfl := ha rfl
    have hB : B = [] := hv.nil
    subst hB
    clear hv ha
    go_enter Try.func15, Try.ntmps15
    go_wp2
    go_ret
    exact ⟨_, _, rfl, World.ownsRow_nil _ _ _ _, Below.refl _ _, rfl⟩
  | some x =>
    clear ha
    obtain ⟨i0, hi, hz0, hz1, hz2⟩ := info_parts Try.info21'
    obtain ⟨hlen, hcell⟩ := hv
    have hm : n ≤ maxLen := by unfold maxLen; omega
    have hb2 : i0.bytes * n ≤ 281474976710656 := by rw [hz2]; omega
    go_enter Try.func15, Try.ntmps15
    go_wp2_with (at_make; refine wpList_make_full _ rfl _ _ 41 rfl w.heap.size 21 i0 (.int .i32 0) 1 Try.underlying41 hi hz0 hz1 _ _ _ _ n rfl rfl rfl rfl hb2 hm (Nat.le_refl _) ?_)
    intro w1 hown hgrow
    rw [show (madeCells #[.int .i32 0] n).toList = (List.replicate n (0 : Int)).map (.int .i32) by rw [toList_madeCells_one]; simp] at hown
    have hbel : Below w.heap.size w w1 := (Below.refl _ _).grown hgrow (Nat.le_refl _) (by simp)
    have hw1 : w.heap.size ≤ w1.heap.size := hbel.size
    clear hgrow
    go_wp2
    go_loopg [4] n (fun gk i wr => ∃ k : Nat, k ≤ n ∧ i = .int .i64 (k : Int) ∧ gk = n - k ∧ wr.ownsRow w.heap.size 21 1 (.slice (some ⟨w.heap.size, 0, none⟩) n n) n ((B.take k ++ List.replicate (n - k) 0).map (.int .i32)) ∧ Below w.heap.size w wr)
    case atStart => exact ⟨0, Nat.zero_le _, rfl, rfl, by simpa using hown, hbel⟩
    case round =>
      obtain ⟨k, hk, rfl, rfl, hown, hbel⟩ := hrel
      by_cases hlt : k < n
      · obtain ⟨b, off, he, hc⟩ := hcell (by omega)
        simp only [Option.some.injEq] at he
        subst he
        have hc1 : wr.cell? ⟨b, off + k, none⟩ = some (.int .i32 (B.getD k 0)) := (hbel.cell (World.block_lt_of_cell? w _ (hc k hlt))).trans (hc k hlt)
        have hs := set_clone 0 B k (by omega)
        generalize B.getD k 0 = z at hc1 hs
        have hf := hown.frozenAt k
        have hst := hown.cellAt k (by omega)
        have hst' : ∃ u, wr.cell? ⟨w.heap.size, k, none⟩ = some u := ⟨_, hst.trans (List.getElem?_eq_getElem (by have := hown.1; omega))⟩
        obtain ⟨u, hu⟩ := hst'
        have hown2 := (hown.stored k (.int .i32 z)).1
        have hbel2 : Below w.heap.size w (wr.setCell ⟨w.heap.size, k, none⟩ (.int .i32 z)) := hbel.setCell (Nat.le_refl _) _
        have HO : (wr.setCell ⟨w.heap.size, k, none⟩ (.int .i32 z)).ownsRow w.heap.size 21 1 (.slice (some ⟨w.heap.size, 0, none⟩) n n) n ((B.take (k + 1) ++ List.replicate (n - (k + 1)) 0).map (.int .i32)) := by
          rw [← hlen] at hown2 ⊢
          rw [← hs, List.map_set]
          exact hown2
        clear hown hst hown2 hcell hc hs
        go_wp2
        go_roundg (n - (k + 1))
        case measure => omega
        case rel => exact ⟨k + 1, by omega, by go_num, rfl, HO, hbel2⟩
      · have hkn : k = n := by omega
        subst hkn
        have hown' : wr.ownsRow w.heap.size 21 1 (.slice (some ⟨w.heap.size, 0, none⟩) k k) k (B.map (.int .i32)) := by
          have e := hown
          rw [Nat.sub_self, List.replicate_zero, List.append_nil, List.take_of_length_le (by omega)] at e
          exact e
        clear hown hcell
        go_wp2
        go_ret
        exact ⟨_, _, rfl, hown', hbel, rfl⟩

set_option maxHeartbeats 400000 in
theorem cloneF_any (a : Option Addr) (n cap : Nat) (B : List Nat) (w : World) (hv : Vw (.float .f64) 0 w a n B) (hn : n ≤ 1048576) (ha : a = none → n = 0) :
    Calls Try.prog 16 #[.slice a n cap] w (CloneOf 22 (B.map (.float .f64)) a n w) := by
  have qT : ∀ (w : World) (a : Option Addr) (n c n' c' : Nat), (binOp .eql 42 (.slice a n c) (.slice none n' c')).run Try.prog w = .ok (.bool a.isNone) w := fun w a n c n' c' => Lib.run_eql_slice_nil w _ _ a n c n' c' Try.underlying42
  cases a with
  | none =>
    obtain rfl := ha rfl
    have hB : B = [] := hv.nil
    subst hB
    clear hv ha
    go_enter Try.func16, Try.ntmps16
    go_wp2
    go_ret
    exact ⟨_, _, rfl, World.ownsRow_nil _ _ _ _, Below.refl _ _, rfl⟩
  | some x =>
    clear ha
    obtain ⟨i0, hi, hz0, hz1, hz2⟩ := info_parts Try.info22'
    obtain ⟨hlen, hcell⟩ := hv
    have hm : n ≤ maxLen := by unfold maxLen; omega
    have hb2 : i0.bytes * n ≤ 281474976710656 := by rw [hz2]; omega
    go_enter Try.func16, Try.ntmps16
    go_wp2_with (at_make; refine wpList_make_full _ rfl _ _ 42 rfl w.heap.size 22 i0 (.float .f64 0) 1 Try.underlying42 hi hz0 hz1 _ _ _ _ n rfl rfl rfl rfl hb2 hm (Nat.le_refl _) ?_)
    intro w1 hown hgrow
    rw [show (madeCells #[.float .f64 0] n).toList = (List.replicate n (0 : Nat)).map (.float .f64) by rw [toList_madeCells_one]; simp] at hown
    have hbel : Below w.heap.size w w1 := (Below.refl _ _).grown hgrow (Nat.le_refl _) (by simp)
    have hw1 : w.heap.size ≤ w1.heap.size := hbel.size
    clear hgrow
    go_wp2
    go_loopg [4] n (fun gk i wr => ∃ k : Nat, k ≤ n ∧ i = .int .i64 (k : Int) ∧ gk = n - k ∧ wr.ownsRow w.heap.size 22 1 (.slice (some ⟨w.heap.size, 0, none⟩) n n) n ((B.take k ++ List.replicate (n - k) 0).map (.float .f64)) ∧ Below w.heap.size w wr)
    case atStart => exact ⟨0, Nat.zero_le _, rfl, rfl, by simpa using hown, hbel⟩
    case round =>
      obtain ⟨k, hk, rfl, rfl, hown, hbel⟩ := hrel
      by_cases hlt : k < n
      · obtain ⟨b, off, he, hc⟩ := hcell (by omega)
        simp only [Option.some.injEq] at he
        subst he
        have hc1 : wr.cell? ⟨b, off + k, none⟩ = some (.float .f64 (B.getD k 0)) := (hbel.cell (World.block_lt_of_cell? w _ (hc k hlt))).trans (hc k hlt)
        have hs := set_clone 0 B k (by omega)
        generalize B.getD k 0 = z at hc1 hs
        have hf := hown.frozenAt k
        have hst := hown.cellAt k (by omega)
        have hst' : ∃ u, wr.cell? ⟨w.heap.size, k, none⟩ = some u := ⟨_, hst.trans (List.getElem?_eq_getElem (by have := hown.1; omega))⟩
        obtain ⟨u, hu⟩ := hst'
        have hown2 := (hown.stored k (.float .f64 z)).1
        have hbel2 : Below w.heap.size w (wr.setCell ⟨w.heap.size, k, none⟩ (.float .f64 z)) := hbel.setCell (Nat.le_refl _) _
        have HO : (wr.setCell ⟨w.heap.size, k, none⟩ (.float .f64 z)).ownsRow w.heap.size 22 1 (.slice (some ⟨w.heap.size, 0, none⟩) n n) n ((B.take (k + 1) ++ List.replicate (n - (k + 1)) 0).map (.float .f64)) := by
          rw [← hlen] at hown2 ⊢
          rw [← hs, List.map_set]
          exact hown2
        clear hown hst hown2 hcell hc hs
        go_wp2
        go_roundg (n - (k + 1))
        case measure => omega
        case rel => exact ⟨k + 1, by omega, by go_num, rfl, HO, hbel2⟩
      · have hkn : k = n := by omega
        subst hkn
        have hown' : wr.ownsRow w.heap.size 22 1 (.slice (some ⟨w.heap.size, 0, none⟩) k k) k (B.map (.float .f64)) := by
          have e := hown
          rw [Nat.sub_self, List.replicate_zero, List.append_nil, List.take_of_length_le (by omega)] at e
          exact e
        clear hown hcell
        go_wp2
        go_ret
        exact ⟨_, _, rfl, hown', hbel, rfl⟩
end Go.Proofs.Qxb6603396a
