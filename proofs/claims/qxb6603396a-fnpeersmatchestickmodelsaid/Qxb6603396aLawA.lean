import Derived.Test.Qxb6603396aZp
namespace Go.Proofs.Qxb6603396a
open Go.RowKit Go.Joins Ieee

/-- What the law is handed: five slices, a grid; each read as it lies. -/
structure Ins (w : World) (a0 a1 a2 a3 a4 : Option Addr) (n0 n1 n2 n3 n4 : Nat) (fs ns us : List Int) (ls hs : List Nat) (fst lst : Int) (a : Option Addr) (sn : Nat) (ss : Nat → Ser) (vs : Nat → List Nat) : Prop where
  v0 : Vw (.int .i64) 0 w a0 n0 fs
  v1 : Vw (.int .i64) 0 w a1 n1 ns
  v2 : Vw (.int .i32) 0 w a2 n2 us
  v3 : Vw (.float .f64) 0 w a3 n3 ls
  v4 : Vw (.float .f64) 0 w a4 n4 hs
  z0 : a0 = none → n0 = 0
  z1 : a1 = none → n1 = 0
  z2 : a2 = none → n2 = 0
  z3 : a3 = none → n3 = 0
  z4 : a4 = none → n4 = 0
  m0 : n0 ≤ maxLen
  m1 : n1 ≤ maxLen
  m2 : n2 ≤ maxLen
  m3 : n3 ≤ maxLen
  m4 : n4 ≤ maxLen
  g : VS w a sn ss vs
  gz : a = none → sn = 0
  gm : sn ≤ maxLen
  gv : ∀ i, i < sn → (ss i).va = none → (ss i).vn = 0
  fit : ∀ i, i < sn → (ss i).fit
  f0 : -9223372036854775808 ≤ fst
  f1 : fst ≤ 9223372036854775807
  l0 : -9223372036854775808 ≤ lst
  l1 : lst ≤ 9223372036854775807

section
variable {w w' : World} {a0 a1 a2 a3 a4 : Option Addr} {n0 n1 n2 n3 n4 : Nat} {fs ns us : List Int} {ls hs : List Nat} {fst lst : Int} {a : Option Addr} {sn : Nat} {ss : Nat → Ser} {vs : Nat → List Nat}
theorem Ins.grow (h : Ins w a0 a1 a2 a3 a4 n0 n1 n2 n3 n4 fs ns us ls hs fst lst a sn ss vs) (hB : Below w.heap.size w w') : Ins w' a0 a1 a2 a3 a4 n0 n1 n2 n3 n4 fs ns us ls hs fst lst a sn ss vs :=
  { h with
    v0 := h.v0.kept (fun b _ h1 _ => hB.block b h1), v1 := h.v1.kept (fun b _ h1 _ => hB.block b h1), v2 := h.v2.kept (fun b _ h1 _ => hB.block b h1),
    v3 := h.v3.kept (fun b _ h1 _ => hB.block b h1), v4 := h.v4.kept (fun b _ h1 _ => hB.block b h1), g := h.g.kept (fun b _ h1 _ => hB.block b h1) (fun _ _ b _ h1 _ => hB.block b h1) }
end

def LawPost (w : World) (e : Ending) (w' : World) : Prop := e = .returned (.bool true) ∧ Below w.heap.size w w'

/-- The two boxes of the law. -/
structure Boxes (k : Nat) (tick fst lst : Int) (a : Option Addr) (sn c : Nat) (V Z B S : Nat) (w : World) : Prop where
  g0 : w.cell? ⟨k, 0, none⟩ = some (.int .i64 tick)
  g1 : w.cell? ⟨k, 1, none⟩ = some (.int .i64 fst)
  g2 : w.cell? ⟨k, 2, none⟩ = some (.int .i64 lst)
  g3 : w.cell? ⟨k, 3, none⟩ = some (.slice a sn c)
  q0 : w.cell? ⟨k + 1, 0, none⟩ = some (.float .f64 V)
  q1 : w.cell? ⟨k + 1, 1, none⟩ = some (.float .f64 Z)
  q2 : w.cell? ⟨k + 1, 2, none⟩ = some (.float .f64 B)
  q3 : w.cell? ⟨k + 1, 3, none⟩ = some (.float .f64 S)

theorem Boxes.grow {k : Nat} {tick fst lst : Int} {a : Option Addr} {sn c : Nat} {V Z B S : Nat} {w w' : World} (h : Boxes k tick fst lst a sn c V Z B S w) (hB : Below w.heap.size w w') : Boxes k tick fst lst a sn c V Z B S w' := by
  have h0 : k < w.heap.size := World.block_lt_of_cell? w _ h.g0
  have h1 : k + 1 < w.heap.size := World.block_lt_of_cell? w _ h.q0
  exact ⟨(hB.cell (p := ⟨k, 0, none⟩) h0).trans h.g0, (hB.cell (p := ⟨k, 1, none⟩) h0).trans h.g1, (hB.cell (p := ⟨k, 2, none⟩) h0).trans h.g2, (hB.cell (p := ⟨k, 3, none⟩) h0).trans h.g3,
    (hB.cell (p := ⟨k + 1, 0, none⟩) h1).trans h.q0, (hB.cell (p := ⟨k + 1, 1, none⟩) h1).trans h.q1, (hB.cell (p := ⟨k + 1, 2, none⟩) h1).trans h.q2, (hB.cell (p := ⟨k + 1, 3, none⟩) h1).trans h.q3⟩

theorem own_mono {w : World} {base base' n cp : Nat} {E : TypeId} {a : Option Addr} {xs : List Value} (h : w.ownsRow base E 1 (.slice a n cp) n xs) (hb : base' ≤ base) : w.ownsRow base' E 1 (.slice a n cp) n xs := ownsRow_le h hb

theorem like_self (s : Ser) : Like s s := rfl
theorem Domain.like {fs : List Int} {un n : Nat} {fst lst : Int} {sn : Nat} {ss ss' : Nat → Ser} (h : Domain fs un n fst lst sn ss) (hl : ∀ i, i < sn → Like (ss i) (ss' i)) : Domain fs un n fst lst sn ss' :=
  ⟨h.1, fun i hi => by
    have e := hl i hi
    have := h.2 i hi
    unfold SerOk at *
    rw [e]; exact this⟩
theorem fit_like {s s' : Ser} (h : s.fit) (hl : Like s s') : s'.fit := by rw [hl]; exact h
theorem vn_like {s s' : Ser} (hl : Like s s') : s'.vn = s.vn := by rw [hl]

/-- What stands when the grid is about to be copied. -/
structure Start0 (c : Ctx) (la : Option Addr) (ln lc : Nat) (sa : Option Addr) (sn sc : Nat) (xl xs : List Nat) (n : Nat) (fs : List Int) (ss : Nat → Ser) : Prop where
  im : c.W.heap[c.P]? = some (.cells (ImCells c.fa c.fn c.fc c.na c.nn c.nc c.ua c.un c.uc la ln lc sa sn sc c.bp) 78 (0, 0))
  pin : c.Lo ≤ c.P ∧ c.P < c.Hi ∧ c.Hi ≤ c.W.heap.size
  l : c.W.ownsRow c.Lo 22 1 (.slice la ln lc) ln (flts xl)
  s : c.W.ownsRow c.Lo 22 1 (.slice sa sn sc) sn (flts xs)
  ne : ∀ b o b' o', la = some ⟨b, o, none⟩ → sa = some ⟨b', o', none⟩ → b ≠ b'
  lin : ∀ b o, la = some ⟨b, o, none⟩ → b < c.Hi
  sin : ∀ b o, sa = some ⟨b, o, none⟩ → b < c.Hi
  f : Vw (.int .i64) 0 c.W c.fa c.fn fs
  fb : ∀ b off, c.fa = some ⟨b, off, none⟩ → b < c.Lo
  fn : c.fn ≤ 1048576
  un : c.un ≤ 1048576
  uc : c.un ≤ c.uc
  gn : c.gn ≤ 1048576
  vn : ∀ i, i < c.gn → (ss i).vn ≤ 1048576
  fit : ∀ i, i < c.gn → (ss i).fit
  f0 : -9223372036854775808 ≤ c.fst
  l1 : c.lst ≤ 9223372036854775807
  nle : n ≤ 65536
  nl : (n : Int) = c.lst - c.fst + 1
  dom : Domain fs c.un n c.fst c.lst c.gn ss

theorem Start0.start {c : Ctx} {la : Option Addr} {ln lc : Nat} {sa : Option Addr} {sn sc : Nat} {xl xs : List Nat} {n : Nat} {fs : List Int} {ss : Nat → Ser} (h : Start0 c la ln lc sa sn sc xl xs n fs ss) {X : World} (hB : Below c.W.heap.size c.W X)
    {a' : Option Addr} {c' : Nat} {ss' : Nat → Ser} {vs : Nat → List Nat} (hg : GridOk c.Hi X a' c.gn ss ss' vs) : Start { c with W := X, ga := a', gc := c' } la ln lc sa sn sc xl xs n fs ss' vs := by
  have hp := h.pin
  have hs := hB.size
  exact ⟨(hB.block _ (show c.P < c.W.heap.size by omega)).trans h.im, ⟨hp.1, hp.2.1, show c.Hi ≤ X.heap.size by omega⟩, own_kept h.l hB, own_kept h.s hB, h.ne, h.lin, h.sin, h.f.kept (fun b _ h1 _ => hB.block b h1), h.fb,
    ⟨hg.view, fun i _ => rfl, hg.up, hg.vup⟩, h.fn, h.un, h.uc, h.gn, fun i hi => by rw [vn_like (hg.like i hi)]; exact h.vn i hi, fun i hi => fit_like (h.fit i hi) (hg.like i hi), h.f0, h.l1, h.nle, h.nl, h.dom.like hg.like⟩

/-- What peers leaves. -/
def Left9 (c : Ctx) (n : Nat) (fs : List Int) (ss : Nat → Ser) (vs : Nat → List Nat) (wx : World) : Prop :=
  ∃ la lc sa sc xl xs, Below c.Lo c.W wx ∧ wx.heap[c.P]? = some (.cells (ImCells c.fa c.fn c.fc c.na c.nn c.nc c.ua c.un c.uc la n lc sa n sc c.bp) 78 (0, 0)) ∧ wx.ownsRow c.Lo 22 1 (.slice la n lc) n (flts xl) ∧ wx.ownsRow c.Lo 22 1 (.slice sa n sc) n (flts xs) ∧
    ∀ j, j < n → Sums ShareOf (Hit c.un fs) c.fst c.tick c.V c.Z c.B c.S ss vs j c.gn (xl.getD j 0) (xs.getD j 0)
def LeftPost (c : Ctx) (n : Nat) (fs : List Int) (ss : Nat → Ser) (vs : Nat → List Nat) (e : Ending) (w' : World) : Prop := e = .returned (.tuple #[]) ∧ Left9 c n fs ss vs w'

theorem zp_at (c : Ctx) {la : Option Addr} {ln lc : Nat} {sa : Option Addr} {sn sc : Nat} {xl xs : List Nat} {n : Nat} {fs : List Int} {ss : Nat → Ser} (h : Start0 c la ln lc sa sn sc xl xs n fs ss) (X : World) (hB : Below c.W.heap.size c.W X)
    {a' : Option Addr} {c' : Nat} {ss' : Nat → Ser} {vs : Nat → List Nat} (hg : GridOk c.Hi X a' c.gn ss ss' vs) :
    Calls Try.prog 17 #[.pointer (some ⟨c.P, 0, none⟩), .agg #[.int .i64 c.tick, .int .i64 c.fst, .int .i64 c.lst, .slice a' c.gn c'], .agg (CfgCells c.V c.Z c.B c.S)] X (LeftPost c n fs ss vs) := by
  refine (zpeers_any { c with W := X, ga := a', gc := c' } la ln lc sa sn sc xl xs n fs ss' vs (h.start hB hg)).mono ?_
  rintro e w' ⟨W1, la, lc, sa, sc, xl, xs, he, hB1, hps, hfull⟩
  have hp := h.pin
  have hs := hB.size
  have hb1 : Below c.Lo c.W W1 := (hB.mono (by omega)).trans (hB1.mono (by show c.Lo ≤ X.heap.size; omega))
  exact ⟨he, la, lc, sa, sc, xl, xs, hb1.trans hps.below, hps.im, hps.l, hps.s, fun j hj => (hfull.2.2 j hj).like hg.like⟩

theorem own_cap {w : World} {base n cp : Nat} {E : TypeId} {a : Option Addr} {xs : List Value} (h : w.ownsRow base E 1 (.slice a n cp) n xs) : n ≤ cp := by
  rcases h.2 with ⟨_, h0⟩ | ⟨g, cap, cur, hv, _, _, hc, _⟩
  · omega
  · cases hv; exact hc

/-- The three clones that are only read. -/
structure Trio (w : World) (fa : Option Addr) (n0 : Nat) (fs : List Int) (na : Option Addr) (n1 : Nat) (ns : List Int) (ua : Option Addr) (n2 : Nat) (us : List Int) : Prop where
  f : Vw (.int .i64) 0 w fa n0 fs
  n : Vw (.int .i64) 0 w na n1 ns
  u : Vw (.int .i32) 0 w ua n2 us
theorem Trio.grow {w w' : World} {fa : Option Addr} {n0 : Nat} {fs : List Int} {na : Option Addr} {n1 : Nat} {ns : List Int} {ua : Option Addr} {n2 : Nat} {us : List Int} (h : Trio w fa n0 fs na n1 ns ua n2 us) (hB : Below w.heap.size w w') : Trio w' fa n0 fs na n1 ns ua n2 us :=
  ⟨h.f.kept (fun b _ h1 _ => hB.block b h1), h.n.kept (fun b _ h1 _ => hB.block b h1), h.u.kept (fun b _ h1 _ => hB.block b h1)⟩
theorem Vw.grow {α : Type} {f : α → Value} {d : α} {w w' : World} {a : Option Addr} {n : Nat} {xs : List α} (h : Vw f d w a n xs) (hB : Below w.heap.size w w') : Vw f d w' a n xs := h.kept (fun b _ h1 _ => hB.block b h1)

/-- What stands when the imputer is made: out of the five clones, in order. -/
theorem start0_of {w5 w6 w7 w8 w9 wA : World} {fa na ua la sa : Option Addr} {n0 fc n1 nc n2 uc n3 lc n4 sc : Nat} {fs us : List Int} {ls hs : List Nat} {bp : Bool} {tick fst lst : Int} {sn n V Z B S : Nat} {ss : Nat → Ser}
    (ho6 : w6.ownsRow w5.heap.size 3 1 (.slice fa n0 fc) n0 (fs.map (.int .i64))) (hb7 : Below w6.heap.size w6 w7) (hb8 : Below w7.heap.size w7 w8)
    (ho8 : w8.ownsRow w7.heap.size 21 1 (.slice ua n2 uc) n2 (us.map (.int .i32)))
    (ho9 : w9.ownsRow w8.heap.size 22 1 (.slice la n3 lc) n3 (ls.map (.float .f64))) (hb9 : Below w8.heap.size w8 w9) (hoA : wA.ownsRow w9.heap.size 22 1 (.slice sa n4 sc) n4 (hs.map (.float .f64))) (hbA : Below w9.heap.size w9 wA)
    (p0 : n0 ≤ 1048576) (p2 : n2 ≤ 1048576) (p5 : sn ≤ 1048576) (p6 : ∀ i, i < sn → (ss i).vn ≤ 1048576) (fit : ∀ i, i < sn → (ss i).fit) (f0 : -9223372036854775808 ≤ fst) (l1 : lst ≤ 9223372036854775807) (nle : n ≤ 65536) (nl : (n : Int) = lst - fst + 1) (hD : Domain fs n2 n fst lst sn ss) :
    Start0 ⟨wA.alloc (.cells (ImCells fa n0 fc na n1 nc ua n2 uc la n3 lc sa n4 sc bp) 78), w8.heap.size, wA.heap.size + 1, wA.heap.size, tick, fst, lst, none, sn, 0, V, Z, B, S, fa, n0, fc, na, n1, nc, ua, n2, uc, bp⟩ la n3 lc sa n4 sc ls hs n fs ss := by
  have s7 := hb7.size
  have s8 := hb8.size
  have s9 := hb9.size
  have sA := hbA.size
  have hal : ∀ o, Below wA.heap.size wA (wA.alloc o) := fun o => (Below.refl _ _).alloc (Nat.le_refl _) _
  have hl := own_block ho9
  have hsb := own_block hoA
  refine ⟨heap_alloc_last _ _, ⟨?_, ?_, ?_⟩, own_kept (own_kept ho9 hbA) (hal _), own_kept (ownsRow_le hoA s9) (hal _), ?_, ?_, ?_, ?_, ?_, p0, p2, own_cap ho8, p5, p6, fit, f0, l1, nle, nl, hD⟩
  · show w8.heap.size ≤ wA.heap.size; omega
  · show wA.heap.size < wA.heap.size + 1; omega
  · show wA.heap.size + 1 ≤ (wA.alloc _).heap.size; simp
  · intro b o b' o' e e' hbb
    have := hl b o e
    have := hsb b' o' e'
    omega
  · intro b o e
    have := hl b o e
    show b < wA.heap.size + 1; omega
  · intro b o e
    have := hsb b o e
    show b < wA.heap.size + 1; omega
  · exact ((((((Vw.of_own (f := .int .i64) 0 ho6).grow hb7).grow hb8).grow hb9).grow hbA).grow (hal _))
  · intro b o e
    have := own_block ho6 b o e
    show b < w8.heap.size; omega
end Go.Proofs.Qxb6603396a
