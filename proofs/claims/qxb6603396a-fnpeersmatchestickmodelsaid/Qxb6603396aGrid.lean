import Derived.Test.Qxb6603396aCfg
import Derived.Deep.MidRow
import Derived.Deep.Upon
namespace Go.Proofs.Qxb6603396a
open Go.RowKit Ieee
attribute [local go_sem] run_fadd run_fsub run_fmul run_fquo run_fmin run_storef

theorem Vw.of_own {α : Type} {f : α → Value} (d : α) {w : World} {base n c : Nat} {E : TypeId} {a : Option Addr} {xs : List α} (h : w.ownsRow base E 1 (.slice a n c) n (xs.map f)) : Vw f d w a n xs := by
  have hl : xs.length = n := by have := h.1; simpa using this
  refine ⟨hl, fun hn => ?_⟩
  rcases h.2 with ⟨_, h0⟩ | ⟨g, cap, cur, hv, hb, hg, _⟩
  · omega
  · cases hv
    refine ⟨g, 0, rfl, fun i hi => ?_⟩
    have := h.cells (g := g) rfl i (f (xs.getD i d)) (by rw [List.getElem?_map, List.getD_eq_getElem?_getD, List.getElem?_eq_getElem (by omega)]; rfl)
    rw [Addr.add_mid] at this
    exact this

theorem own_block {w : World} {base n c : Nat} {E : TypeId} {a : Option Addr} {xs : List Value} (h : w.ownsRow base E 1 (.slice a n c) n xs) : ∀ b off, a = some ⟨b, off, none⟩ → base ≤ b ∧ b < w.heap.size := by
  intro b off e
  subst e
  exact h.lt b rfl

theorem Vw.kept {α : Type} {f : α → Value} {d : α} {w w' : World} {a : Option Addr} {n : Nat} {xs : List α} (h : Vw f d w a n xs) (hk : ∀ b off, b < w.heap.size → a = some ⟨b, off, none⟩ → w'.heap[b]? = w.heap[b]?) : Vw f d w' a n xs := by
  refine ⟨h.len, fun hn => ?_⟩
  obtain ⟨b, off, rfl, hc⟩ := h.cell hn
  refine ⟨b, off, rfl, fun i hi => ?_⟩
  have hb := World.block_lt_of_cell? w _ (hc 0 (by omega))
  exact (World.cell?_of_block (w := w) (a := ⟨b, off + i, none⟩) (hk b off hb rfl)).trans (hc i hi)

/-- A series that is another's copy: its values lie elsewhere. -/
def Like (s s' : Ser) : Prop := s' = { s with va := s'.va, vc := s'.vc }

/-- A grid that was copied into new memory from block N on. -/
structure GridOk (N : Nat) (w : World) (a : Option Addr) (n : Nat) (ss ss' : Nat → Ser) (vs : Nat → List Nat) : Prop where
  view : VS w a n ss' vs
  like : ∀ i, i < n → Like (ss i) (ss' i)
  up : ∀ b off, a = some ⟨b, off, none⟩ → N ≤ b
  vup : ∀ i, i < n → ∀ b off, (ss' i).va = some ⟨b, off, none⟩ → N ≤ b

theorem VS.kept {w w' : World} {a : Option Addr} {n : Nat} {ss : Nat → Ser} {vs : Nat → List Nat} (h : VS w a n ss vs) (hk : ∀ b off, b < w.heap.size → a = some ⟨b, off, none⟩ → w'.heap[b]? = w.heap[b]?)
    (hk2 : ∀ i, i < n → ∀ b off, b < w.heap.size → (ss i).va = some ⟨b, off, none⟩ → w'.heap[b]? = w.heap[b]?) : VS w' a n ss vs := by
  refine ⟨fun hn => ?_, h.str, fun i hi => (h.vals i hi).kept (hk2 i hi), h.vmax⟩
  obtain ⟨b, off, rfl, hc⟩ := h.cell hn
  refine ⟨b, off, rfl, fun i hi => ?_⟩
  have hb := World.block_lt_of_cell? w _ (hc 0 (by omega)).1
  have e : ∀ o, w'.cell? ⟨b, o, none⟩ = w.cell? ⟨b, o, none⟩ := fun o => World.cell?_of_block (w := w) (a := ⟨b, o, none⟩) (hk b off hb rfl)
  simp only [e]
  exact hc i hi

theorem GridOk.kept {N : Nat} {w w' : World} {a : Option Addr} {n : Nat} {ss ss' : Nat → Ser} {vs : Nat → List Nat} (h : GridOk N w a n ss ss' vs) (hk : ∀ b, N ≤ b → b < w.heap.size → w'.heap[b]? = w.heap[b]?) : GridOk N w' a n ss ss' vs :=
  ⟨h.view.kept (fun b off hb e => hk b (h.up b off e) hb) (fun i hi b off hb e => hk b (h.vup i hi b off e) hb), h.like, h.up, h.vup⟩
theorem GridOk.mono {N N' : Nat} {w : World} {a : Option Addr} {n : Nat} {ss ss' : Nat → Ser} {vs : Nat → List Nat} (h : GridOk N w a n ss ss' vs) (hN : N' ≤ N) : GridOk N' w a n ss ss' vs :=
  ⟨h.view, h.like, fun b off e => Nat.le_trans hN (h.up b off e), fun i hi b off e => Nat.le_trans hN (h.vup i hi b off e)⟩

def GridPost (tick fst lst : Int) (sn : Nat) (ss : Nat → Ser) (vs : Nat → List Nat) (w : World) (e : Ending) (w' : World) : Prop :=
  ∃ a' c' ss', e = .returned (.agg #[.int .i64 tick, .int .i64 fst, .int .i64 lst, .slice a' sn c']) ∧ GridOk w.heap.size w' a' sn ss ss' vs ∧ Below w.heap.size w w'

theorem Try.info80' : (Try.prog.info? 80).map (fun i => (i.zero, i.size, i.bytes)) = some (some (.agg #[.string ⟨#[]⟩, .int .i64 0, .slice none 0 0, .int .i64 0, .int .i64 0, .int .i64 0, .bool false]), 7, 80) := by kernel_rfl

theorem size_setC (b : Nat) : ∀ (vs : List Value) (o : Nat) (w : World), (w.setCells b o vs).heap.size = w.heap.size
  | [], _, _ => rfl
  | v :: r, o, w => by rw [World.setCells, size_setC b r]; simp
theorem tape_setC (b : Nat) : ∀ (vs : List Value) (o : Nat) (w : World), (w.setCells b o vs).tape = w.tape
  | [], _, _ => rfl
  | v :: r, o, w => by rw [World.setCells, tape_setC b r]; rfl
theorem below_setC {B : Nat} {a w : World} (h : Below B a w) (hB : a.heap.size ≥ B) (b o : Nat) (vs : List Value) (hb : B ≤ b) : Below B a (w.setCells b o vs) :=
  h.trans ⟨World.os_setCells _ _ _ _, tape_setC _ _ _ _, World.output_setCells _ _ _ _, by rw [size_setC]; exact Nat.le_refl _, fun k hk => World.heap_setCells_other _ _ _ _ (by have := h.size; omega) (by omega)⟩

/-- The copies that stand after i rounds. -/
structure Made (N : Nat) (w : World) (sn i : Nat) (ss ss' : Nat → Ser) (vs : Nat → List Nat) : Prop where
  there : w.there (N + 2) 0 (sn * 7)
  rng : ∀ k, k < i → w.rangeAt (N + 2) (k * 7) (ss' k).cells.toList
  like : ∀ k, k < i → Like (ss k) (ss' k)
  vals : ∀ k, k < i → Vw (.float .f64) 0 w (ss' k).va (ss' k).vn (vs k)
  vup : ∀ k, k < i → ∀ b off, (ss' k).va = some ⟨b, off, none⟩ → N + 3 ≤ b
  size : N + 3 ≤ w.heap.size

theorem Made.ok {N : Nat} {w : World} {sn : Nat} {ss ss' : Nat → Ser} {vs : Nat → List Nat} (h : Made N w sn sn ss ss' vs) (hstr : ∀ i, i < sn → (ss i).inst.size ≤ maxLen) (hvm : ∀ i, i < sn → (ss i).vn ≤ maxLen) :
    GridOk (N + 2) w (some ⟨N + 2, 0, none⟩) sn ss ss' vs := by
  refine ⟨⟨fun _ => ⟨N + 2, 0, rfl, fun i hi => ?_⟩, fun i hi => ?_, h.vals, fun i hi => ?_⟩, h.like, ?_, fun i hi b off e => ?_⟩
  · have r := h.rng i hi
    have e : ∀ j v, (ss' i).cells.toList[j]? = some v → w.cell? ⟨N + 2, 0 + i * 7 + j, none⟩ = some v := fun j v hv => by rw [Nat.zero_add]; exact r j v hv
    exact ⟨e 0 _ rfl, e 1 _ rfl, e 2 _ rfl, e 3 _ rfl, e 4 _ rfl, e 5 _ rfl, e 6 _ rfl⟩
  · rw [h.like i hi]; exact hstr i hi
  · rw [h.like i hi]; exact hvm i hi
  · intro b off e; cases e; omega
  · have := h.vup i hi b off e; omega

theorem Made.step {N : Nat} {w w2 : World} {sn i : Nat} {ss ss' : Nat → Ser} {vs : Nat → List Nat} (h : Made N w sn i ss ss' vs) (hi : i < sn) (hB : Below w.heap.size w w2)
    (s : Ser) (hs : Like (ss i) s) (hv : Vw (.float .f64) 0 w2 s.va s.vn (vs i)) (hu : ∀ b off, s.va = some ⟨b, off, none⟩ → w.heap.size ≤ b) :
    Made N (w2.setCells (N + 2) (i * 7) s.cells.toList) sn (i + 1) ss (fun k => if k = i then s else ss' k) vs := by
  have hsz := h.size
  have hsz2 := hB.size
  have ht2 : w2.there (N + 2) 0 (sn * 7) := fun j hj => by rw [hB.cell (p := ⟨N + 2, 0 + j, none⟩) (by simp; omega), hB.frozen (p := ⟨N + 2, 0 + j, none⟩) (by simp; omega)]; exact h.there j hj
  have htm : w2.there (N + 2) (i * 7) s.cells.toList.length := fun j hj => by
    have := ht2 (i * 7 + j) (by simp [Ser.cells] at hj; omega)
    rw [Nat.zero_add] at this; exact this
  have hkeep : ∀ b, b < w2.heap.size → b ≠ N + 2 → (w2.setCells (N + 2) (i * 7) s.cells.toList).heap[b]? = w2.heap[b]? := fun b hb hne => World.heap_setCells_other _ _ _ _ hb hne
  refine ⟨World.there_setCells ht2 _ _ _, fun k hk => ?_, fun k hk => ?_, fun k hk => ?_, fun k hk => ?_, ?_⟩
  · by_cases e : k = i
    · subst e
      simp only [if_true]
      exact World.rangeAt_setCells_same _ _ _ _ htm
    · simp only [if_neg e]
      refine World.rangeAt_setCells_apart (fun j v hv => ?_) _ _ _ (.inr (.inl ?_))
      · rw [hB.cell (p := ⟨N + 2, k * 7 + j, none⟩) (by simp; omega)]; exact h.rng k (by omega) j v hv
      · simp [Ser.cells]; omega
  · by_cases e : k = i
    · subst e; simp only [if_true]; exact hs
    · simp only [if_neg e]; exact h.like k (by omega)
  · by_cases e : k = i
    · subst e
      simp only [if_true]
      exact hv.kept fun b off hb e => hkeep b hb (by have := hu b off e; omega)
    · simp only [if_neg e]
      have hv0 := h.vals k (by omega)
      have hv2 : Vw (.float .f64) 0 w2 (ss' k).va (ss' k).vn (vs k) := hv0.kept fun b off hb _ => hB.block b hb
      exact hv2.kept fun b off hb e' => hkeep b hb (by have := h.vup k (by omega) b off e'; omega)
  · by_cases e : k = i
    · subst e; simp only [if_true]; intro b off e'; have := hu b off e'; omega
    · simp only [if_neg e]; exact h.vup k (by omega)
  · have : (w2.setCells (N + 2) (i * 7) s.cells.toList).heap.size = w2.heap.size := size_setC _ _ _ _
    omega

theorem Try.size80 : (Try.prog.info? 80).map (·.size) = some 7 := by kernel_rfl
theorem size80 (s : Ser) : (Try.prog.info? 80).map (·.size) = some s.cells.size := Try.size80
theorem one80 (s : Ser) : s.cells.all (·.oneCell') = true := by simp [Ser.cells, Value.oneCell']

set_option maxRecDepth 100000 in
set_option maxHeartbeats 400000 in
theorem grid_any (tick fst lst : Int) (a : Option Addr) (sn c : Nat) (ss : Nat → Ser) (vs : Nat → List Nat) (w : World) (hv : VS w a sn ss vs) (hsn : sn ≤ 1048576) (hvn : ∀ i, i < sn → (ss i).vn ≤ 1048576) (ha : a = none → sn = 0) (hva : ∀ i, i < sn → (ss i).va = none → (ss i).vn = 0) :
    Calls Try.prog 18 #[.agg #[.int .i64 tick, .int .i64 fst, .int .i64 lst, .slice a sn c]] w (GridPost tick fst lst sn ss vs w) := by
  have qT : ∀ (w : World) (a : Option Addr) (n c n' c' : Nat), (binOp .neq 43 (.slice a n c) (.slice none n' c')).run Try.prog w = .ok (.bool (!a.isNone)) w := fun w a n c n' c' => run_neq_slice_nil_any w _ _ a n c n' c' Try.underlying43
  have HV : Hid (VS w a sn ss vs) := hv
  have Hvn : Hid (∀ i, i < sn → (ss i).vn ≤ 1048576) := hvn
  have Hva : Hid (∀ i, i < sn → (ss i).va = none → (ss i).vn = 0) := hva
  clear hv hvn hva
  go_enter Try.func18, Try.ntmps18
  go_upto_if 8 with fail
  go_cut [3, 4, 5] (fun s3 s4 s5 wx => ∃ a' c' ss', s3 = .slice a' sn c' ∧ GridOk (w.heap.size + 2) wx a' sn ss ss' vs ∧ Below w.heap.size w wx ∧
    wx.heap[w.heap.size]? = some (.cells #[.int .i64 tick, .int .i64 fst, .int .i64 lst, .slice a sn c] 45 (0, 0)) ∧ wx.heap[w.heap.size + 1]? = some (.cells #[.int .i64 0, .int .i64 0, .int .i64 0, .slice none 0 0] 62 (0, 0)))
  case first =>
    obtain ⟨W0, hW0⟩ : ∃ W0, (w.alloc (.cells #[.int .i64 tick, .int .i64 fst, .int .i64 lst, .slice a sn c] 45)).alloc (.cells #[.int .i64 0, .int .i64 0, .int .i64 0, .slice none 0 0] 62) = W0 := ⟨_, rfl⟩
    have hB0 : Below w.heap.size w W0 := by rw [← hW0]; exact ((Below.refl _ _).alloc (Nat.le_refl _) _).alloc (by simp) _
    have h0 : W0.heap[w.heap.size]? = some (.cells #[.int .i64 tick, .int .i64 fst, .int .i64 lst, .slice a sn c] 45 (0, 0)) := by
      rw [← hW0, Below.heap_alloc _ _ _ (by simp)]; exact heap_alloc_last _ _
    have h1 : W0.heap[w.heap.size + 1]? = some (.cells #[.int .i64 0, .int .i64 0, .int .i64 0, .slice none 0 0] 62 (0, 0)) := by
      rw [← hW0]; have := heap_alloc_last (w.alloc (.cells #[.int .i64 tick, .int .i64 fst, .int .i64 lst, .slice a sn c] 45)) (.cells #[.int .i64 0, .int .i64 0, .int .i64 0, .slice none 0 0] 62); simpa using this
    have hs0 : W0.heap.size = w.heap.size + 2 := by rw [← hW0]; simp
    have b3 : W0.cell? ⟨w.heap.size, 3, none⟩ = some (.slice a sn c) := by rw [cell_of_row W0 _ 3 _ _ _ h0]; rfl
    rw [hW0]
    clear hW0
    cases a with
    | none =>
      obtain rfl := ha rfl
      have H0 : Hid (W0.heap[w.heap.size]? = some (.cells #[.int .i64 tick, .int .i64 fst, .int .i64 lst, .slice none 0 c] 45 (0, 0))) := h0
      have H1 : Hid (W0.heap[w.heap.size + 1]? = some (.cells #[.int .i64 0, .int .i64 0, .int .i64 0, .slice none 0 0] 62 (0, 0))) := h1
      clear h0 h1 qT
      go_wp2_with fail
      go_meet
      exact ⟨none, 0, ss, rfl, ⟨⟨fun h => absurd rfl h, fun i h => by omega, fun i h => by omega, fun i h => by omega⟩, fun i h => by omega, (fun b off e => by cases e), fun i h => by omega⟩, hB0, H0.out, H1.out⟩
    | some x =>
      obtain ⟨i0, hi, hz0, hz1, hz2⟩ := info_parts Try.info80'
      have hm : sn ≤ maxLen := by unfold maxLen; omega
      have hb2 : i0.bytes * sn ≤ 281474976710656 := by rw [hz2]; omega
      have H0 : Hid (W0.heap[w.heap.size]? = some (.cells #[.int .i64 tick, .int .i64 fst, .int .i64 lst, .slice (some x) sn c] 45 (0, 0))) := h0
      have H1 : Hid (W0.heap[w.heap.size + 1]? = some (.cells #[.int .i64 0, .int .i64 0, .int .i64 0, .slice none 0 0] 62 (0, 0))) := h1
      have Hs : Hid (W0.heap.size = w.heap.size + 2) := hs0
      clear h0 h1 qT hs0
      go_wp2_with (at_make; refine wpList_make_full _ rfl _ _ 60 rfl W0.heap.size 80 i0 _ 7 Try.underlying60 hi hz0 hz1 _ _ _ _ sn rfl rfl rfl rfl hb2 hm (Nat.le_refl _) ?_)
      intro w1 hown hgrow
      have hbel : Below (w.heap.size + 2) W0 w1 := (Below.refl _ _).grown hgrow (by rw [Hs.out]; exact Nat.le_refl _) (by simp)
      have hM0 : Made w.heap.size w1 sn 0 ss ss vs := by
        rcases hown.2 with ⟨hc, _⟩ | ⟨g, cap, cur, hc, hb, hg, h3, h4, h5, _⟩
        · cases hc
        · cases hc
          rw [Hs.out] at hg
          have hlt : w.heap.size + 2 < w1.heap.size := (Array.getElem?_eq_some_iff.1 hg).1
          refine ⟨fun j hj => ⟨?_, frozen_of_row w1 _ _ _ _ hg⟩, fun k h => by omega, fun k h => by omega, fun k h => by omega, fun k h => by omega, hlt⟩
          rw [cell_of_row w1 _ _ _ _ _ hg, Array.getElem?_eq_getElem (by omega)]; rfl
      rw [Hs.out]
      clear hown hgrow hb2 hm hz0 hz1 hz2 hi
      go_wp2_with fail
      go_loopg [4, 5] sn (fun gk s4 s5 wr => ∃ (i : Nat) (ss' : Nat → Ser), s4 = .int .i64 (i : Int) ∧ i ≤ sn ∧ gk = sn - i ∧ Below (w.heap.size + 2) W0 wr ∧ Made w.heap.size wr sn i ss ss' vs)
      case atStart => exact ⟨0, ss, rfl, Nat.zero_le _, rfl, hbel, hM0⟩
      case round =>
        clear hM0 hbel
        obtain ⟨i, ss', rfl, hle, rfl, hbel, hM⟩ := hrel
        have y3 := (hbel.cell (p := ⟨w.heap.size, 3, none⟩) (by simp)).trans b3
        have hBw : Below w.heap.size w wr := hB0.trans (hbel.mono (by omega))
        by_cases hlt : i < sn
        · obtain ⟨b, off, hx, hc⟩ := HV.out.cell (by omega)
          cases hx
          obtain ⟨c0, c1, c2, c3, c4, c5, c6⟩ := hc i hlt
          have hb := World.block_lt_of_cell? w _ c0
          have k0 := (hBw.cell (p := ⟨b, off + i * 7, none⟩) hb).trans c0
          have k1 := (hBw.cell (p := ⟨b, off + i * 7 + 1, none⟩) hb).trans c1
          have k2 := (hBw.cell (p := ⟨b, off + i * 7 + 2, none⟩) hb).trans c2
          have k3 := (hBw.cell (p := ⟨b, off + i * 7 + 3, none⟩) hb).trans c3
          have k4 := (hBw.cell (p := ⟨b, off + i * 7 + 4, none⟩) hb).trans c4
          have k5 := (hBw.cell (p := ⟨b, off + i * 7 + 5, none⟩) hb).trans c5
          have k6 := (hBw.cell (p := ⟨b, off + i * 7 + 6, none⟩) hb).trans c6
          have hvn := Hvn.out i hlt
          have hva := Hva.out i hlt
          have hvw := HV.out.vals i hlt
          have hlk : ∀ va vc, Like (ss i) { ss i with va := va, vc := vc } := fun va vc => rfl
          have hst := fun w2 (hB : Below wr.heap.size wr w2) s (hs : Like (ss i) s) hv hu => hM.step (w2 := w2) hlt hB s hs hv hu
          have HM : Hid (∀ w2, Below wr.heap.size wr w2 → ∀ s, Like (ss i) s → Vw (.float .f64) 0 w2 s.va s.vn (vs i) → (∀ b off, s.va = some ⟨b, off, none⟩ → wr.heap.size ≤ b) → Made w.heap.size (w2.setCells (w.heap.size + 2) (i * 7) s.cells.toList) sn (i + 1) ss (fun k => if k = i then s else ss' k) vs) := hst
          have hth := hM.there
          have hsz := hM.size
          have HT : Hid (wr.there (w.heap.size + 2) 0 (sn * 7)) := hth
          have HL : Hid (∀ va vc, Like (ss i) { ss i with va := va, vc := vc }) := hlk
          have HW : Hid (Vw (.float .f64) 0 w (ss i).va (ss i).vn (vs i)) := hvw
          have HA : Hid ((ss i).va = none → (ss i).vn = 0) := hva
          clear hst hth hlk hvw hva hM c0 c1 c2 c3 c4 c5 c6 hc
          generalize ss i = s at *
          have hvw1 : ∀ o, Vw (.float .f64) 0 (wr.alloc o) s.va s.vn (vs i) := fun o => HW.out.kept fun b off hb _ => (hBw.alloc (by omega) o).block b hb
          go_wp2_with fail
          refine (cloneF_any s.va s.vn s.vc (vs i) _ (hvw1 _) hvn HA.out).mono ?_
          rintro e w2 ⟨ao, cp, rfl, hown, hbel2, _⟩
          have hM : w2.heap[wr.heap.size]? = some (.cells #[.string s.inst, .int .i64 s.first, .slice s.va s.vn s.vc, .int .i64 s.kf, .int .i64 s.kl, .int .i64 s.start, .bool s.has] 80 (0, 0)) := by
            rw [hbel2.block _ (by simp)]; exact heap_alloc_last _ _
          have hB2 : Below wr.heap.size wr w2 := ((Below.refl _ _).alloc (Nat.le_refl _) _).trans (hbel2.mono (by simp))
          have m0 : w2.cell? ⟨wr.heap.size, 0, none⟩ = some (.string s.inst) := by rw [cell_of_row w2 _ 0 _ _ _ hM]; rfl
          have m1 : w2.cell? ⟨wr.heap.size, 1, none⟩ = some (.int .i64 s.first) := by rw [cell_of_row w2 _ 1 _ _ _ hM]; rfl
          have m2 : w2.cell? ⟨wr.heap.size, 2, none⟩ = some (.slice s.va s.vn s.vc) := by rw [cell_of_row w2 _ 2 _ _ _ hM]; rfl
          have m3 : w2.cell? ⟨wr.heap.size, 3, none⟩ = some (.int .i64 s.kf) := by rw [cell_of_row w2 _ 3 _ _ _ hM]; rfl
          have m4 : w2.cell? ⟨wr.heap.size, 4, none⟩ = some (.int .i64 s.kl) := by rw [cell_of_row w2 _ 4 _ _ _ hM]; rfl
          have m5 : w2.cell? ⟨wr.heap.size, 5, none⟩ = some (.int .i64 s.start) := by rw [cell_of_row w2 _ 5 _ _ _ hM]; rfl
          have m6 : w2.cell? ⟨wr.heap.size, 6, none⟩ = some (.bool s.has) := by rw [cell_of_row w2 _ 6 _ _ _ hM]; rfl
          have mf : ∀ j, w2.frozen? ⟨wr.heap.size, j, none⟩ = false := fun j => frozen_of_row w2 _ _ _ _ hM
          obtain ⟨w3, hw3⟩ : ∃ w3, w2.setCell ⟨wr.heap.size, 2, none⟩ (.slice ao s.vn cp) = w3 := ⟨_, rfl⟩
          have hB3 : Below wr.heap.size wr w3 := by rw [← hw3]; exact hB2.setCell (Nat.le_refl _) _
          have hvw3 : Vw (.float .f64) 0 w3 ao s.vn (vs i) := by
            rw [← hw3]
            refine (Vw.of_own 0 hown).kept fun b off hb e => Below.heap_setCell _ _ _ _ ?_
            have := (own_block hown b off e).1
            simp at this; simp; omega
          have hup3 : ∀ b off, ao = some ⟨b, off, none⟩ → wr.heap.size ≤ b := fun b off e => by have := (own_block hown b off e).1; simp at this; omega
          have hth3 : w3.there (w.heap.size + 2) (i * 7) (#[.string s.inst, .int .i64 s.first, .slice ao s.vn cp, .int .i64 s.kf, .int .i64 s.kl, .int .i64 s.start, .bool s.has] : Array Value).size := fun j hj => by
            have := HT.out (i * 7 + j) (by simp at hj; omega)
            rw [Nat.zero_add] at this
            rw [hB3.cell (p := ⟨w.heap.size + 2, i * 7 + j, none⟩) (by simp; omega), hB3.frozen (p := ⟨w.heap.size + 2, i * 7 + j, none⟩) (by simp; omega)]
            exact this
          have hmade := HM.out w3 hB3 { s with va := ao, vc := cp } (HL.out _ _) hvw3 hup3
          have HMd : Hid (Made w.heap.size (w3.setCells (w.heap.size + 2) (i * 7) (#[.string s.inst, .int .i64 s.first, .slice ao s.vn cp, .int .i64 s.kf, .int .i64 s.kl, .int .i64 s.start, .bool s.has] : Array Value).toList) sn (i + 1) ss (fun k => if k = i then { s with va := ao, vc := cp } else ss' k) vs) := hmade
          have hbel3 : Below (w.heap.size + 2) W0 (w3.setCells (w.heap.size + 2) (i * 7) (#[.string s.inst, .int .i64 s.first, .slice ao s.vn cp, .int .i64 s.kf, .int .i64 s.kl, .int .i64 s.start, .bool s.has] : Array Value).toList) := below_setC (hbel.trans (hB3.mono (by omega))) (by rw [Hs.out]; exact Nat.le_refl _) _ _ _ (Nat.le_refl _)
          have q0 : w3.cell? ⟨wr.heap.size, 0, none⟩ = some (.string s.inst) := by rw [← hw3, World.cell?_setCell_other _ _ _ _ (by simp)]; exact m0
          have q1 : w3.cell? ⟨wr.heap.size, 1, none⟩ = some (.int .i64 s.first) := by rw [← hw3, World.cell?_setCell_other _ _ _ _ (by simp)]; exact m1
          have q2 : w3.cell? ⟨wr.heap.size, 2, none⟩ = some (.slice ao s.vn cp) := by rw [← hw3]; exact World.cell?_setCell_same _ _ _ m2
          have q3 : w3.cell? ⟨wr.heap.size, 3, none⟩ = some (.int .i64 s.kf) := by rw [← hw3, World.cell?_setCell_other _ _ _ _ (by simp)]; exact m3
          have q4 : w3.cell? ⟨wr.heap.size, 4, none⟩ = some (.int .i64 s.kl) := by rw [← hw3, World.cell?_setCell_other _ _ _ _ (by simp)]; exact m4
          have q5 : w3.cell? ⟨wr.heap.size, 5, none⟩ = some (.int .i64 s.start) := by rw [← hw3, World.cell?_setCell_other _ _ _ _ (by simp)]; exact m5
          have q6 : w3.cell? ⟨wr.heap.size, 6, none⟩ = some (.bool s.has) := by rw [← hw3, World.cell?_setCell_other _ _ _ _ (by simp)]; exact m6
          clear hmade hM hown hbel2 hB2 hvw3 hup3 hvw1 hB3
          go_upto_region 9 with fail
          try rw [hw3]
          clear hw3
          have hs80 : (Try.prog.info? 80).map (·.size) = some (#[.string s.inst, .int .i64 s.first, .slice ao s.vn cp, .int .i64 s.kf, .int .i64 s.kl, .int .i64 s.start, .bool s.has] : Array Value).size := Try.size80
          have ho80 : (#[.string s.inst, .int .i64 s.first, .slice ao s.vn cp, .int .i64 s.kf, .int .i64 s.kl, .int .i64 s.start, .bool s.has] : Array Value).all (·.oneCell') = true := by simp [Value.oneCell']
          have HS80 : Hid ((Try.prog.info? 80).map (·.size) = some (#[.string s.inst, .int .i64 s.first, .slice ao s.vn cp, .int .i64 s.kf, .int .i64 s.kl, .int .i64 s.start, .bool s.has] : Array Value).size) := hs80
          clear hs80
          go_wp2_with (refine wpList_store_mid rfl 80 (.tmp 32) (.tmp 31) rfl ?_ ?_ ?_ ?_ ?_ ?_ ?_ ?_ ?_)
          case refine_4 => exact rfl
          case refine_5 => exact rfl
          case refine_6 => exact hth3
          case refine_7 => exact HS80.out
          case refine_8 => exact ho80
          go_roundg (sn - (i + 1))
          case measure => omega
          case rel => exact ⟨i + 1, _, by go_num, hlt, rfl, hbel3, HMd.out⟩
        · have hieq : i = sn := by omega
          subst hieq
          have hG := hM.ok HV.out.str HV.out.vmax
          have HG : Hid (GridOk (w.heap.size + 2) wr (some ⟨w.heap.size + 2, 0, none⟩) i ss ss' vs) := hG
          clear hG hM
          go_wp2_with fail
          go_meet
          exact ⟨_, _, ss', rfl, HG.out, hBw, (hbel.block _ (by omega)).trans H0.out, (hbel.block _ (by omega)).trans H1.out⟩
  case rest =>
    obtain ⟨a', c', ss', rfl, hG, hB, h0, h1⟩ := hcut
    have b0 : wc.cell? ⟨w.heap.size, 0, none⟩ = some (.int .i64 tick) := by rw [cell_of_row wc _ 0 _ _ _ h0]; rfl
    have b1 : wc.cell? ⟨w.heap.size, 1, none⟩ = some (.int .i64 fst) := by rw [cell_of_row wc _ 1 _ _ _ h0]; rfl
    have b2 : wc.cell? ⟨w.heap.size, 2, none⟩ = some (.int .i64 lst) := by rw [cell_of_row wc _ 2 _ _ _ h0]; rfl
    have b3 : wc.cell? ⟨w.heap.size, 3, none⟩ = some (.slice a sn c) := by rw [cell_of_row wc _ 3 _ _ _ h0]; rfl
    have rs : (storeVar 62 ⟨w.heap.size + 1, 0, none⟩ (.agg #[.int .i64 tick, .int .i64 fst, .int .i64 lst, .slice a' sn c'])).run Try.prog wc = .ok () (wc.setRow (w.heap.size + 1) #[.int .i64 tick, .int .i64 fst, .int .i64 lst, .slice a' sn c']) := run_storeVar_row _ _ _ _ _ _ h1 (by kernel_rfl) rfl (by simp [Value.oneCell'])
    have hh := setRow_heap wc (w.heap.size + 1) _ #[.int .i64 tick, .int .i64 fst, .int .i64 lst, .slice a' sn c'] _ _ h1
    have ho : ∀ k, k ≠ w.heap.size + 1 → (wc.setRow (w.heap.size + 1) #[.int .i64 tick, .int .i64 fst, .int .i64 lst, .slice a' sn c']).heap[k]? = wc.heap[k]? := fun k hk => setRow_other _ _ _ _ hk
    have hB2 : Below w.heap.size w (wc.setRow (w.heap.size + 1) #[.int .i64 tick, .int .i64 fst, .int .i64 lst, .slice a' sn c']) := hB.trans ⟨rfl, rfl, rfl, by simp, fun k hk => ho k (by omega)⟩
    have rl : (loadVar 62 ⟨w.heap.size + 1, 0, none⟩).run Try.prog (wc.setRow (w.heap.size + 1) #[.int .i64 tick, .int .i64 fst, .int .i64 lst, .slice a' sn c']) = .ok (.agg #[.int .i64 tick, .int .i64 fst, .int .i64 lst, .slice a' sn c']) (wc.setRow (w.heap.size + 1) #[.int .i64 tick, .int .i64 fst, .int .i64 lst, .slice a' sn c']) :=
      run_loadVar_row _ _ _ _ _ (0, 0) _ hh Try.underlying62 rfl (by kernel_rfl)
    go_wp2_with (first | (refine wpList_storeRow _ rfl _ _ 62 rfl _ rfl _ rfl _ rs ?_) | fail)
    refine bodyPost_ret (results_cell rfl _ _ rfl _ _ _ rl) rfl ?_
    exact ⟨a', c', ss', rfl, (hG.kept fun b h1 h2 => ho b (by omega)).mono (by omega), hB2⟩
end Go.Proofs.Qxb6603396a
