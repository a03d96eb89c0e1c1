import Derived.Test.Qxb6603396aModel
import Derived.Deep.RegionWith
namespace Go.Proofs.Qxb6603396a
open Go.RowKit Ieee
attribute [local go_sem] run_fadd run_fsub run_fmul run_fquo run_fmin run_storef

def flts (xs : List Nat) : List Value := xs.map (.float .f64)

/-- What is fixed while peers runs. -/
structure Ctx where
  W : World
  Lo : Nat
  Hi : Nat
  P : Nat
  tick : Int
  fst : Int
  lst : Int
  ga : Option Addr
  gn : Nat
  gc : Nat
  V : Nat
  Z : Nat
  B : Nat
  S : Nat
  fa : Option Addr
  fn : Nat
  fc : Nat
  na : Option Addr
  nn : Nat
  nc : Nat
  ua : Option Addr
  un : Nat
  uc : Nat
  bp : Bool

/-- The state of peers: the imputer in its box, its two rows, the boxes of the call; elsewhere all as it was. -/
structure PS (c : Ctx) (la : Option Addr) (ln lc : Nat) (sa : Option Addr) (sn sc : Nat) (xl xs : List Nat) (w : World) : Prop where
  os : w.os = c.W.os
  tape : w.tape = c.W.tape
  output : w.output = c.W.output
  size : c.W.heap.size + 2 ≤ w.heap.size
  out : ∀ b, b < c.W.heap.size → (b < c.Lo ∨ c.Hi ≤ b) → w.heap[b]? = c.W.heap[b]?
  im : w.heap[c.P]? = some (.cells (ImCells c.fa c.fn c.fc c.na c.nn c.nc c.ua c.un c.uc la ln lc sa sn sc c.bp) 78 (0, 0))
  pin : c.Lo ≤ c.P ∧ c.P < c.Hi ∧ c.Hi ≤ c.W.heap.size
  g4 : w.heap[c.W.heap.size]? = some (.cells #[.int .i64 c.tick, .int .i64 c.fst, .int .i64 c.lst, .slice c.ga c.gn c.gc] 62 (0, 0))
  g5 : w.heap[c.W.heap.size + 1]? = some (.cells (CfgCells c.V c.Z c.B c.S) 36 (0, 0))
  l : w.ownsRow c.Lo 22 1 (.slice la ln lc) ln (flts xl)
  s : w.ownsRow c.Lo 22 1 (.slice sa sn sc) sn (flts xs)
  ne : ∀ b o b' o', la = some ⟨b, o, none⟩ → sa = some ⟨b', o', none⟩ → b ≠ b'
  lin : ∀ b o, la = some ⟨b, o, none⟩ → b < c.Hi ∨ c.W.heap.size ≤ b
  sin : ∀ b o, sa = some ⟨b, o, none⟩ → b < c.Hi ∨ c.W.heap.size ≤ b

theorem row_kind {w : World} {base n cp g o : Nat} {xs : List Value} (h : w.ownsRow base 22 1 (.slice (some ⟨g, o, none⟩) n cp) n xs) : ∃ cur, w.heap[g]? = some (.cells cur 22 (0, 0)) := by
  rcases h.2 with ⟨hv, _⟩ | ⟨g', cp', cur, hv, _, hg, _⟩
  · cases hv
  · cases hv; exact ⟨cur, hg⟩

section
variable {c : Ctx} {la : Option Addr} {ln lc : Nat} {sa : Option Addr} {sn sc : Nat} {xl xs : List Nat} {w w' : World}

theorem PS.below (h : PS c la ln lc sa sn sc xl xs w) : Below c.Lo c.W w := by
  have hp := h.pin
  have hs := h.size
  exact ⟨h.os, h.tape, h.output, by omega, fun k hk => h.out k (by omega) (.inl hk)⟩

theorem grown_of_below {w w' : World} (hB : Below w.heap.size w w') (row : Option Nat) : w.grownBy w' row := ⟨hB.os, hB.tape, hB.output, hB.size, fun k hk _ => hB.block k hk⟩
theorem own_kept {w w' : World} {base n cp : Nat} {E : TypeId} {a : Option Addr} {xs : List Value} (h : w.ownsRow base E 1 (.slice a n cp) n xs) (hB : Below w.heap.size w w') : w'.ownsRow base E 1 (.slice a n cp) n xs :=
  h.kept (grown_of_below hB none) (by cases hv : (Value.slice a n cp).ownBlock <;> simp)

/-- New memory and draws turn nothing. -/
theorem PS.grow (h : PS c la ln lc sa sn sc xl xs w) (hB : Below w.heap.size w w') : PS c la ln lc sa sn sc xl xs w' := by
  have hp := h.pin
  have hs := h.size
  have hb := hB.size
  exact ⟨hB.os.trans h.os, hB.tape.trans h.tape, hB.output.trans h.output, by omega, fun b h1 h2 => (hB.block b (by omega)).trans (h.out b h1 h2), (hB.block _ (by omega)).trans h.im, h.pin, (hB.block _ (by omega)).trans h.g4, (hB.block _ (by omega)).trans h.g5,
    own_kept h.l hB, own_kept h.s hB, h.ne, h.lin, h.sin⟩

theorem PS.cell (h : PS c la ln lc sa sn sc xl xs w) {p : Addr} (hp : p.block < c.W.heap.size) (ho : p.block < c.Lo ∨ c.Hi ≤ p.block) : w.cell? p = c.W.cell? p := World.cell?_of_block (w := c.W) (h.out p.block hp ho)

/-- A store into the row of loads. -/
theorem PS.putL {g : Nat} (h : PS c (some ⟨g, 0, none⟩) ln lc sa sn sc xl xs w) (j x : Nat) : PS c (some ⟨g, 0, none⟩) ln lc sa sn sc (xl.set j x) xs (w.setCell ⟨g, j, none⟩ (.float .f64 x)) := by
  obtain ⟨cur, hg⟩ := row_kind h.l
  have hk : ∀ k, k ≠ g → (w.setCell ⟨g, j, none⟩ (.float .f64 x)).heap[k]? = w.heap[k]? := fun k hk => Below.heap_setCell _ _ _ _ hk
  have hlo := (h.l.lt g rfl).1
  have hin := h.lin g 0 rfl
  have hst := (h.l.stored j (.float .f64 x)).1
  have ne1 : c.P ≠ g := fun e => by have := h.im; rw [e, hg] at this; simp at this
  have ne2 : c.W.heap.size ≠ g := fun e => by have := h.g4; rw [e, hg] at this; simp at this
  have ne3 : c.W.heap.size + 1 ≠ g := fun e => by have := h.g5; rw [e, hg] at this; simp at this
  refine ⟨h.os, h.tape, h.output, by simpa [World.setCell] using h.size, fun b h1 h2 => (hk b (by omega)).trans (h.out b h1 h2), (hk _ ne1).trans h.im, h.pin, (hk _ ne2).trans h.g4, (hk _ ne3).trans h.g5, ?_, ?_, h.ne, h.lin, h.sin⟩
  · simpa [flts, List.map_set] using hst
  · refine h.s.kept (row := some g) ⟨rfl, rfl, rfl, by simp, fun k _ hk' => hk k (fun e => hk' (by rw [e]))⟩ ?_
    cases sa with
    | none => exact .inl rfl
    | some q =>
      rcases h.s.2 with ⟨hv, _⟩ | ⟨g', cp', cur', hv, _⟩
      · cases hv
      · cases hv
        exact .inr (fun e => by
          simp [Value.ownBlock] at e
          exact h.ne g 0 g' 0 rfl rfl e.symm)

theorem PS.putS {g : Nat} (h : PS c la ln lc (some ⟨g, 0, none⟩) sn sc xl xs w) (j x : Nat) : PS c la ln lc (some ⟨g, 0, none⟩) sn sc xl (xs.set j x) (w.setCell ⟨g, j, none⟩ (.float .f64 x)) := by
  obtain ⟨cur, hg⟩ := row_kind h.s
  have hk : ∀ k, k ≠ g → (w.setCell ⟨g, j, none⟩ (.float .f64 x)).heap[k]? = w.heap[k]? := fun k hk => Below.heap_setCell _ _ _ _ hk
  have hlo := (h.s.lt g rfl).1
  have hin := h.sin g 0 rfl
  have hst := (h.s.stored j (.float .f64 x)).1
  have ne1 : c.P ≠ g := fun e => by have := h.im; rw [e, hg] at this; simp at this
  have ne2 : c.W.heap.size ≠ g := fun e => by have := h.g4; rw [e, hg] at this; simp at this
  have ne3 : c.W.heap.size + 1 ≠ g := fun e => by have := h.g5; rw [e, hg] at this; simp at this
  refine ⟨h.os, h.tape, h.output, by simpa [World.setCell] using h.size, fun b h1 h2 => (hk b (by omega)).trans (h.out b h1 h2), (hk _ ne1).trans h.im, h.pin, (hk _ ne2).trans h.g4, (hk _ ne3).trans h.g5, ?_, ?_, h.ne, h.lin, h.sin⟩
  · refine h.l.kept (row := some g) ⟨rfl, rfl, rfl, by simp, fun k _ hk' => hk k (fun e => hk' (by rw [e]))⟩ ?_
    cases la with
    | none => exact .inl rfl
    | some q =>
      rcases h.l.2 with ⟨hv, _⟩ | ⟨g', cp', cur', hv, _⟩
      · cases hv
      · cases hv
        exact .inr (fun e => by
          simp [Value.ownBlock] at e
          exact h.ne g' 0 g 0 rfl rfl e)
  · simpa [flts, List.map_set] using hst

theorem own_ne_kind {w : World} {base n cp P : Nat} {a : Option Addr} {xs : List Value} {cs : Array Value} {T : TypeId} {fr : Nat × Nat} (h : w.ownsRow base 22 1 (.slice a n cp) n xs) (hP : w.heap[P]? = some (.cells cs T fr)) (hT : T ≠ 22) : (Value.slice a n cp).ownBlock ≠ some P := by
  intro e
  cases a with
  | none => simp [Value.ownBlock] at e
  | some q =>
    rcases h.2 with ⟨hv, _⟩ | ⟨g, cp', cur, hv, _, hg, _⟩
    · cases hv
    · cases hv
      simp [Value.ownBlock] at e
      subst e
      rw [hg] at hP
      simp at hP
      exact hT hP.2.1.symm

theorem own_setP {w : World} {base n cp P j : Nat} {a : Option Addr} {xs : List Value} {cs : Array Value} {T : TypeId} {fr : Nat × Nat} (h : w.ownsRow base 22 1 (.slice a n cp) n xs) (hP : w.heap[P]? = some (.cells cs T fr)) (hT : T ≠ 22) (v : Value) :
    (w.setCell ⟨P, j, none⟩ v).ownsRow base 22 1 (.slice a n cp) n xs :=
  h.kept (row := some P) ⟨rfl, rfl, rfl, by simp, fun k _ hk => Below.heap_setCell _ _ _ _ (fun e => hk (by rw [e]))⟩ (.inr (own_ne_kind h hP hT))

theorem own_off {w : World} {base n cp b o : Nat} {a : Option Addr} {xs : List Value} (h : w.ownsRow base 22 1 (.slice a n cp) n xs) (e : a = some ⟨b, o, none⟩) : (Value.slice a n cp).ownBlock = some b := by subst e; rfl

/-- 'im.load = append(im.load[:0], make([]float64, n)...)'. -/
theorem PS.newL {la' : Option Addr} {n lc' : Nat} {ys : List Nat} (h : PS c la ln lc sa sn sc xl xs w) (ho : w'.ownsRow c.Lo 22 1 (.slice la' n lc') n (flts ys)) (hg : w.grownBy w' (Value.slice la 0 lc).ownBlock)
    (hb : (Value.slice la' n lc').ownBlock = (Value.slice la 0 lc).ownBlock ∨ (Value.slice la' n lc').ownBlock = some w.heap.size) : PS c la' n lc' sa sn sc ys xs (w'.setCell ⟨c.P, 3, none⟩ (.slice la' n lc')) := by
  have hp := h.pin
  have hs := h.size
  have hs' := hg.size
  have hrow : (Value.slice la 0 lc).ownBlock = (Value.slice la ln lc).ownBlock := by cases la <;> rfl
  rw [hrow] at hg hb
  have hrow1 : ∀ b, (Value.slice la ln lc).ownBlock = some b → c.Lo ≤ b ∧ b < w.heap.size ∧ (b < c.Hi ∨ c.W.heap.size ≤ b) := fun b e => by
    have h1 := h.l.lt b e
    refine ⟨h1.1, h1.2, ?_⟩
    rcases h.l.2 with ⟨hv, _⟩ | ⟨g, cp', cur, hv, _⟩
    · cases hv; cases e
    · cases hv; simp [Value.ownBlock] at e; subst e; exact h.lin g 0 rfl
  have nP := own_ne_kind h.l h.im (by decide)
  have n4 := own_ne_kind h.l h.g4 (by decide)
  have n5 := own_ne_kind h.l h.g5 (by decide)
  have im' : w'.heap[c.P]? = some (.cells (ImCells c.fa c.fn c.fc c.na c.nn c.nc c.ua c.un c.uc la ln lc sa sn sc c.bp) 78 (0, 0)) := by rw [hg.block _ (by omega) (fun e => nP e.symm)]; exact h.im
  have hk : ∀ k, k ≠ c.P → (w'.setCell ⟨c.P, 3, none⟩ (.slice la' n lc')).heap[k]? = w'.heap[k]? := fun k hk => Below.heap_setCell _ _ _ _ hk
  refine ⟨hg.os.trans h.os, hg.tape.trans h.tape, hg.output.trans h.output, by simp [World.setCell]; omega, fun b h1 h2 => ?_, ?_, h.pin, ?_, ?_, own_setP ho im' (by decide) _, ?_, ?_, ?_, h.sin⟩
  · rw [hk b (by omega), hg.block b (by omega) (fun e => by have := hrow1 b e.symm; omega)]
    exact h.out b h1 h2
  · rw [heap_setCell_same w' c.P 3 _ _ _ im']; rfl
  · rw [hk _ (by omega), hg.block _ (by omega) (fun e => n4 e.symm)]; exact h.g4
  · rw [hk _ (by omega), hg.block _ (by omega) (fun e => n5 e.symm)]; exact h.g5
  · refine own_setP (h.s.kept hg ?_) im' (by decide) _
    cases sa with
    | none => exact .inl rfl
    | some q =>
      rcases h.s.2 with ⟨hv, _⟩ | ⟨g', cp', cur', hv, _⟩
      · cases hv
      · cases hv
        refine .inr (fun e => ?_)
        rcases h.l.2 with ⟨hv, _⟩ | ⟨g, cp2, cur2, hv, _⟩
        · cases hv; cases e
        · cases hv; simp [Value.ownBlock] at e; exact h.ne g 0 g' 0 rfl rfl e.symm
  · intro b o b' o' e1 e2
    have e3 := own_off ho e1
    have h4 := (h.s.lt b' (own_off h.s e2)).2
    rcases hb with hb | hb
    · rw [e3] at hb
      rcases h.l.2 with ⟨hv, _⟩ | ⟨g, cp2, cur2, hv, _⟩
      · cases hv; cases hb
      · cases hv; simp [Value.ownBlock] at hb; subst hb; exact h.ne b 0 b' o' rfl e2
    · rw [e3] at hb; cases hb; omega
  · intro b o e1
    have e3 := own_off ho e1
    rcases hb with hb | hb
    · rw [e3] at hb; exact (hrow1 b hb.symm).2.2
    · rw [e3] at hb; cases hb; right; omega

/-- 'im.shares = append(im.shares[:0], make([]float64, n)...)'. -/
theorem PS.newS {sa' : Option Addr} {n sc' : Nat} {ys : List Nat} (h : PS c la ln lc sa sn sc xl xs w) (ho : w'.ownsRow c.Lo 22 1 (.slice sa' n sc') n (flts ys)) (hg : w.grownBy w' (Value.slice sa 0 sc).ownBlock)
    (hb : (Value.slice sa' n sc').ownBlock = (Value.slice sa 0 sc).ownBlock ∨ (Value.slice sa' n sc').ownBlock = some w.heap.size) : PS c la ln lc sa' n sc' xl ys (w'.setCell ⟨c.P, 4, none⟩ (.slice sa' n sc')) := by
  have hp := h.pin
  have hs := h.size
  have hs' := hg.size
  have hrow : (Value.slice sa 0 sc).ownBlock = (Value.slice sa sn sc).ownBlock := by cases sa <;> rfl
  rw [hrow] at hg hb
  have hrow1 : ∀ b, (Value.slice sa sn sc).ownBlock = some b → c.Lo ≤ b ∧ b < w.heap.size ∧ (b < c.Hi ∨ c.W.heap.size ≤ b) := fun b e => by
    have h1 := h.s.lt b e
    refine ⟨h1.1, h1.2, ?_⟩
    rcases h.s.2 with ⟨hv, _⟩ | ⟨g, cp', cur, hv, _⟩
    · cases hv; cases e
    · cases hv; simp [Value.ownBlock] at e; subst e; exact h.sin g 0 rfl
  have nP := own_ne_kind h.s h.im (by decide)
  have n4 := own_ne_kind h.s h.g4 (by decide)
  have n5 := own_ne_kind h.s h.g5 (by decide)
  have im' : w'.heap[c.P]? = some (.cells (ImCells c.fa c.fn c.fc c.na c.nn c.nc c.ua c.un c.uc la ln lc sa sn sc c.bp) 78 (0, 0)) := by rw [hg.block _ (by omega) (fun e => nP e.symm)]; exact h.im
  have hk : ∀ k, k ≠ c.P → (w'.setCell ⟨c.P, 4, none⟩ (.slice sa' n sc')).heap[k]? = w'.heap[k]? := fun k hk => Below.heap_setCell _ _ _ _ hk
  refine ⟨hg.os.trans h.os, hg.tape.trans h.tape, hg.output.trans h.output, by simp [World.setCell]; omega, fun b h1 h2 => ?_, ?_, h.pin, ?_, ?_, ?_, own_setP ho im' (by decide) _, ?_, h.lin, ?_⟩
  · rw [hk b (by omega), hg.block b (by omega) (fun e => by have := hrow1 b e.symm; omega)]
    exact h.out b h1 h2
  · rw [heap_setCell_same w' c.P 4 _ _ _ im']; rfl
  · rw [hk _ (by omega), hg.block _ (by omega) (fun e => n4 e.symm)]; exact h.g4
  · rw [hk _ (by omega), hg.block _ (by omega) (fun e => n5 e.symm)]; exact h.g5
  · refine own_setP (h.l.kept hg ?_) im' (by decide) _
    cases la with
    | none => exact .inl rfl
    | some q =>
      rcases h.l.2 with ⟨hv, _⟩ | ⟨g', cp', cur', hv, _⟩
      · cases hv
      · cases hv
        refine .inr (fun e => ?_)
        rcases h.s.2 with ⟨hv, _⟩ | ⟨g, cp2, cur2, hv, _⟩
        · cases hv; cases e
        · cases hv; simp [Value.ownBlock] at e; exact h.ne g' 0 g 0 rfl rfl e
  · intro b o b' o' e1 e2
    have e3 := own_off ho e2
    have h4 := (h.l.lt b (own_off h.l e1)).2
    rcases hb with hb | hb
    · rw [e3] at hb
      rcases h.s.2 with ⟨hv, _⟩ | ⟨g, cp2, cur2, hv, _⟩
      · cases hv; cases hb
      · cases hv; simp [Value.ownBlock] at hb; subst hb; exact h.ne b o b' 0 e1 rfl
    · rw [e3] at hb; cases hb; omega
  · intro b o e1
    have e3 := own_off ho e1
    rcases hb with hb | hb
    · rw [e3] at hb; exact (hrow1 b hb.symm).2.2
    · rw [e3] at hb; cases hb; right; omega
end
end Go.Proofs.Qxb6603396a
