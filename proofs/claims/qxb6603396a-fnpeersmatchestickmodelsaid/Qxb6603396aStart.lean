import Derived.Test.Qxb6603396aState
namespace Go.Proofs.Qxb6603396a
open Go.RowKit Ieee
attribute [local go_sem] run_fadd run_fsub run_fmul run_fquo run_fmin run_storef

/-- What peers is handed. -/
structure Start (c : Ctx) (la : Option Addr) (ln lc : Nat) (sa : Option Addr) (sn sc : Nat) (xl xs : List Nat) (n : Nat) (fs : List Int) (ss : Nat → Ser) (vs : Nat → List Nat) : Prop where
  im : c.W.heap[c.P]? = some (.cells (ImCells c.fa c.fn c.fc c.na c.nn c.nc c.ua c.un c.uc la ln lc sa sn sc c.bp) 78 (0, 0))
  pin : c.Lo ≤ c.P ∧ c.P < c.Hi ∧ c.Hi ≤ c.W.heap.size
  l : c.W.ownsRow c.Lo 22 1 (.slice la ln lc) ln (flts xl)
  s : c.W.ownsRow c.Lo 22 1 (.slice sa sn sc) sn (flts xs)
  ne : ∀ b o b' o', la = some ⟨b, o, none⟩ → sa = some ⟨b', o', none⟩ → b ≠ b'
  lin : ∀ b o, la = some ⟨b, o, none⟩ → b < c.Hi
  sin : ∀ b o, sa = some ⟨b, o, none⟩ → b < c.Hi
  f : Vw (.int .i64) 0 c.W c.fa c.fn fs
  fb : ∀ b off, c.fa = some ⟨b, off, none⟩ → b < c.Lo
  g : GridOk c.Hi c.W c.ga c.gn ss ss vs
  fn : c.fn ≤ 1048576
  un : c.un ≤ 1048576
  uc : c.un ≤ c.uc
  gn : c.gn ≤ 1048576
  vn : ∀ i, i < c.gn → (ss i).vn ≤ 1048576
  fit : ∀ i, i < c.gn → (ss i).fit
  f0 : -9223372036854775808 ≤ c.fst
  l1 : c.lst ≤ 9223372036854775807
  nle : n ≤ 65536
  nl : (n : Int) = c.lst - c.fst + 1
  dom : Domain fs c.un n c.fst c.lst c.gn ss

theorem Start.ps {c : Ctx} {la : Option Addr} {ln lc : Nat} {sa : Option Addr} {sn sc : Nat} {xl xs : List Nat} {n : Nat} {fs : List Int} {ss : Nat → Ser} {vs : Nat → List Nat} (h : Start c la ln lc sa sn sc xl xs n fs ss vs) :
    PS c la ln lc sa sn sc xl xs ((c.W.alloc (.cells #[.int .i64 c.tick, .int .i64 c.fst, .int .i64 c.lst, .slice c.ga c.gn c.gc] 62)).alloc (.cells (CfgCells c.V c.Z c.B c.S) 36)) := by
  have hB := ((Below.refl c.W.heap.size c.W).alloc (Nat.le_refl _) (.cells #[.int .i64 c.tick, .int .i64 c.fst, .int .i64 c.lst, .slice c.ga c.gn c.gc] 62)).alloc (by simp) (.cells (CfgCells c.V c.Z c.B c.S) 36)
  have hp := h.pin
  refine ⟨rfl, rfl, rfl, by simp, fun b h1 _ => hB.block b h1, (hB.block _ (by omega)).trans h.im, h.pin, ?_, ?_, own_kept h.l hB, own_kept h.s hB, h.ne, fun b o e => .inl (h.lin b o e), fun b o e => .inl (h.sin b o e)⟩
  · rw [Below.heap_alloc _ _ _ (by simp)]; exact heap_alloc_last _ _
  · have := heap_alloc_last (c.W.alloc (.cells #[.int .i64 c.tick, .int .i64 c.fst, .int .i64 c.lst, .slice c.ga c.gn c.gc] 62)) (.cells (CfgCells c.V c.Z c.B c.S) 36)
    simpa using this

/-- What the two sums hold while series i is walked, ticks below k done. -/
def Half (c : Ctx) (n : Nat) (fs : List Int) (ss : Nat → Ser) (vs : Nat → List Nat) (i : Nat) (k : Int) (xl xs : List Nat) : Prop :=
  xl.length = n ∧ xs.length = n ∧ ∀ j, j < n → Sums ShareOf (Hit c.un fs) c.fst c.tick c.V c.Z c.B c.S ss vs j (if c.fst + j < k then i + 1 else i) (xl.getD j 0) (xs.getD j 0)
def Full (c : Ctx) (n : Nat) (fs : List Int) (ss : Nat → Ser) (vs : Nat → List Nat) (i : Nat) (xl xs : List Nat) : Prop :=
  xl.length = n ∧ xs.length = n ∧ ∀ j, j < n → Sums ShareOf (Hit c.un fs) c.fst c.tick c.V c.Z c.B c.S ss vs j i (xl.getD j 0) (xs.getD j 0)

theorem results_none {fn : Func} (h : fn.results = #[]) (tmps : Array Value) (P : Program) (w : World) : (results fn tmps).run P w = .ok (.tuple #[]) w := by
  simp [results, h]

def PeersPost (c : Ctx) (n : Nat) (fs : List Int) (ss : Nat → Ser) (vs : Nat → List Nat) (e : Ending) (w' : World) : Prop :=
  ∃ la lc sa sc xl xs, e = .returned (.tuple #[]) ∧ PS c la n lc sa n sc xl xs w' ∧ Full c n fs ss vs c.gn xl xs

theorem own_len {w : World} {base n cp : Nat} {a : Option Addr} {xs : List Nat} (h : w.ownsRow base 22 1 (.slice a n cp) n (flts xs)) : xs.length = n := by have := h.1; simpa [flts] using this
theorem own_shape {w : World} {base n : Nat} {v : Value} {xs : List Value} (h : w.ownsRow base 22 1 v n xs) : ∃ a cp, v = .slice a n cp := by
  rcases h.2 with ⟨hv, rfl⟩ | ⟨g, cp, _, hv, _⟩
  · exact ⟨none, 0, hv⟩
  · exact ⟨_, cp, hv⟩
theorem grown_cell {w w' : World} {row : Option Nat} {P : Nat} (hg : w.grownBy w' row) (hP : P < w.heap.size) (hne : row ≠ some P) : w'.heap[P]? = w.heap[P]? := hg.block P hP (fun e => hne e.symm)
theorem own_block_len (a : Option Addr) (n m cp : Nat) : (Value.slice a n cp).ownBlock = (Value.slice a m cp).ownBlock := by cases a <;> rfl
theorem PS.imlt {c : Ctx} {la : Option Addr} {ln lc : Nat} {sa : Option Addr} {sn sc : Nat} {xl xs : List Nat} {w : World} (h : PS c la ln lc sa sn sc xl xs w) : c.P < w.heap.size := by have := h.pin; have := h.size; omega
theorem PS.lo {c : Ctx} {la : Option Addr} {ln lc : Nat} {sa : Option Addr} {sn sc : Nat} {xl xs : List Nat} {w : World} (h : PS c la ln lc sa sn sc xl xs w) : c.Lo ≤ w.heap.size := by have := h.pin; have := h.size; omega
theorem own_some {w : World} {base n cp : Nat} {a : Option Addr} {xs : List Value} (h : w.ownsRow base 22 1 (.slice a n cp) n xs) (hn : 0 < n) : ∃ g, a = some ⟨g, 0, none⟩ := by
  rcases h.2 with ⟨_, h0⟩ | ⟨g, cp', _, hv, _⟩
  · omega
  · cases hv; exact ⟨g, rfl⟩
theorem own_at {w : World} {base n cp g j : Nat} {xs : List Nat} (h : w.ownsRow base 22 1 (.slice (some ⟨g, 0, none⟩) n cp) n (flts xs)) (hj : j < n) : w.cell? ⟨g, j, none⟩ = some (.float .f64 (xs.getD j 0)) := by
  have hl : xs.length = n := own_len h
  have := h.cells (g := g) rfl j (.float .f64 (xs.getD j 0)) (by unfold flts; rw [List.getElem?_map, List.getD_eq_getElem?_getD, List.getElem?_eq_getElem (by omega)]; rfl)
  rw [Addr.add_mid] at this
  simpa using this
theorem flts_zero (n : Nat) : List.replicate n (Value.float .f64 0) = flts (List.replicate n 0) := by simp [flts]

theorem PS.from {c : Ctx} {la : Option Addr} {ln lc : Nat} {sa : Option Addr} {sn sc : Nat} {xl xs : List Nat} {w : World} {fs : List Int} (h : PS c la ln lc sa sn sc xl xs w) (hf : Vw (.int .i64) 0 c.W c.fa c.fn fs) (hb : ∀ b off, c.fa = some ⟨b, off, none⟩ → b < c.Lo) : Vw (.int .i64) 0 w c.fa c.fn fs :=
  hf.kept fun b off h1 e => h.out b h1 (.inl (hb b off e))

section
variable {c : Ctx} {n : Nat} {fs : List Int} {ss : Nat → Ser} {vs : Nat → List Nat} {i : Nat} {xl xs : List Nat} {k : Int}
theorem Full.half (h : Full c n fs ss vs i xl xs) : Half c n fs ss vs i (ss i).kf xl xs := ⟨h.1, h.2.1, fun j hj => by
  by_cases e : c.fst + j < (ss i).kf
  · rw [if_pos e]; exact (h.2.2 j hj).no (fun hc => by have := hc.2.1; omega)
  · rw [if_neg e]; exact h.2.2 j hj⟩
theorem Half.full (h : Half c n fs ss vs i k xl xs) (hk : (ss i).kl < k) : Full c n fs ss vs (i + 1) xl xs := ⟨h.1, h.2.1, fun j hj => by
  have := h.2.2 j hj
  by_cases e : c.fst + j < k
  · rw [if_pos e] at this; exact this
  · rw [if_neg e] at this; exact this.no (fun hc => by have := hc.2.2.1; omega)⟩
theorem Half.skip {j : Nat} (h : Half c n fs ss vs i (c.fst + j) xl xs) (hc : ¬ Cnt (Hit c.un fs) c.fst c.V c.Z ss vs j i) : Half c n fs ss vs i (c.fst + j + 1) xl xs := ⟨h.1, h.2.1, fun j' hj => by
  have := h.2.2 j' hj
  by_cases e : j' = j
  · subst e; rw [if_neg (by omega)] at this; rw [if_pos (by omega)]; exact this.no hc
  · by_cases e2 : c.fst + j' < c.fst + j
    · rw [if_pos e2] at this; rw [if_pos (by omega)]; exact this
    · rw [if_neg e2] at this; rw [if_neg (by omega)]; exact this⟩
theorem Half.add {j L S1 : Nat} (h : Half c n fs ss vs i (c.fst + j) xl xs) (hj : j < n) (hc : Cnt (Hit c.un fs) c.fst c.V c.Z ss vs j i)
    (hs : Step ShareOf c.fst c.tick c.B c.S ss vs j i (xl.getD j 0) (xs.getD j 0) L S1) : Half c n fs ss vs i (c.fst + j + 1) (xl.set j L) (xs.set j S1) := ⟨by simpa using h.1, by simpa using h.2.1, fun j' hj' => by
  have := h.2.2 j' hj'
  have h1 := h.1
  have h2 := h.2.1
  by_cases e : j' = j
  · subst e
    rw [if_neg (by omega)] at this
    rw [if_pos (by omega)]
    have g1 : (xl.set j' L).getD j' 0 = L := by rw [List.getD_eq_getElem?_getD, List.getElem?_set_self (by omega)]; rfl
    have g2 : (xs.set j' S1).getD j' 0 = S1 := by rw [List.getD_eq_getElem?_getD, List.getElem?_set_self (by omega)]; rfl
    rw [g1, g2]
    exact this.yes hc hs
  · have g1 : (xl.set j L).getD j' 0 = xl.getD j' 0 := by simp only [List.getD_eq_getElem?_getD]; rw [List.getElem?_set_ne (fun e' => e e'.symm)]
    have g2 : (xs.set j S1).getD j' 0 = xs.getD j' 0 := by simp only [List.getD_eq_getElem?_getD]; rw [List.getElem?_set_ne (fun e' => e e'.symm)]
    rw [g1, g2]
    by_cases e2 : c.fst + j' < c.fst + j
    · rw [if_pos e2] at this; rw [if_pos (by omega)]; exact this
    · rw [if_neg e2] at this; rw [if_neg (by omega)]; exact this⟩
end
end Go.Proofs.Qxb6603396a
