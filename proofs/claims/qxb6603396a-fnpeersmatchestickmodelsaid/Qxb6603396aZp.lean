import Derived.Test.Qxb6603396aPeers
namespace Go.Proofs.Qxb6603396a
open Go.RowKit Ieee

theorem Start.grow {c : Ctx} {la : Option Addr} {ln lc : Nat} {sa : Option Addr} {sn sc : Nat} {xl xs : List Nat} {n : Nat} {fs : List Int} {ss : Nat → Ser} {vs : Nat → List Nat} (h : Start c la ln lc sa sn sc xl xs n fs ss vs) {W' : World} (hB : Below c.W.heap.size c.W W') :
    Start { c with W := W' } la ln lc sa sn sc xl xs n fs ss vs := by
  have hp := h.pin
  have hs := hB.size
  refine ⟨(hB.block _ (show c.P < c.W.heap.size by omega)).trans h.im, ⟨hp.1, hp.2.1, show c.Hi ≤ W'.heap.size by omega⟩, own_kept h.l hB, own_kept h.s hB, h.ne, h.lin, h.sin, h.f.kept (fun b _ h1 _ => hB.block b h1), h.fb,
    h.g.kept (fun b _ h1 => hB.block b h1), h.fn, h.un, h.uc, h.gn, h.vn, h.fit, h.f0, h.l1, h.nle, h.nl, h.dom⟩

def ZPost (c : Ctx) (n : Nat) (fs : List Int) (ss : Nat → Ser) (vs : Nat → List Nat) (e : Ending) (w' : World) : Prop :=
  ∃ W1 la lc sa sc xl xs, e = .returned (.tuple #[]) ∧ Below c.W.heap.size c.W W1 ∧ PS { c with W := W1 } la n lc sa n sc xl xs w' ∧ Full { c with W := W1 } n fs ss vs c.gn xl xs

set_option maxRecDepth 100000 in
theorem zpeers_any (c : Ctx) (la0 : Option Addr) (ln0 lc0 : Nat) (sa0 : Option Addr) (sn0 sc0 : Nat) (xl0 xs0 : List Nat) (n : Nat) (fs : List Int) (ss : Nat → Ser) (vs : Nat → List Nat) (h : Start c la0 ln0 lc0 sa0 sn0 sc0 xl0 xs0 n fs ss vs) :
    Calls Try.prog 17 #[.pointer (some ⟨c.P, 0, none⟩), .agg #[.int .i64 c.tick, .int .i64 c.fst, .int .i64 c.lst, .slice c.ga c.gn c.gc], .agg (CfgCells c.V c.Z c.B c.S)] c.W (ZPost c n fs ss vs) := by
  have hB0 : ∀ o1 o2, Below c.W.heap.size c.W ((c.W.alloc o1).alloc o2) := fun o1 o2 => ((Below.refl _ _).alloc (Nat.le_refl _) _).alloc (by simp) _
  obtain ⟨C, hC⟩ : ∃ C, CfgCells c.V c.Z c.B c.S = C := ⟨_, rfl⟩
  have c1 : C.size = 28 := by rw [← hC]; rfl
  have c3 : C.all (·.oneCell') = true := by rw [← hC]; simp [CfgCells, Value.oneCell']
  have HC : Hid (CfgCells c.V c.Z c.B c.S = C) := hC
  have HH : Hid (Start c la0 ln0 lc0 sa0 sn0 sc0 xl0 xs0 n fs ss vs) := h
  rw [hC]
  clear hC h
  go_enter Try.func17, Try.ntmps17
  go_upto_region 1 with fail
  obtain ⟨W1, hW1⟩ : ∃ W1, (c.W.alloc (.cells #[.int .i64 c.tick, .int .i64 c.fst, .int .i64 c.lst, .slice c.ga c.gn c.gc] 62)).alloc (.cells C 36) = W1 := ⟨_, rfl⟩
  have hB : Below c.W.heap.size c.W W1 := by rw [← hW1]; exact hB0 _ _
  have h2 : W1.heap[c.W.heap.size + 1]? = some (.cells C 36 (0, 0)) := by
    rw [← hW1]
    have := heap_alloc_last (c.W.alloc (.cells #[.int .i64 c.tick, .int .i64 c.fst, .int .i64 c.lst, .slice c.ga c.gn c.gc] 62)) (.cells C 36)
    simpa using this
  have h1 : W1.heap[c.W.heap.size]? = some (.cells #[.int .i64 c.tick, .int .i64 c.fst, .int .i64 c.lst, .slice c.ga c.gn c.gc] 62 (0, 0)) := by
    rw [← hW1, Below.heap_alloc _ _ _ (by simp)]; exact heap_alloc_last _ _
  rw [hW1]
  clear hW1 hB0
  have rl : (loadVar 36 ⟨c.W.heap.size + 1, 0, none⟩).run Try.prog W1 = .ok (.agg C) W1 := run_loadVar_row _ _ _ _ C (0, 0) _ h2 Try.underlying36 rfl (by rw [Try.size36, c1])
  have x0 : W1.cell? ⟨c.W.heap.size, 0, none⟩ = some (.int .i64 c.tick) := by rw [cell_of_row W1 _ 0 _ _ _ h1]; rfl
  have x1 : W1.cell? ⟨c.W.heap.size, 1, none⟩ = some (.int .i64 c.fst) := by rw [cell_of_row W1 _ 1 _ _ _ h1]; rfl
  have x2 : W1.cell? ⟨c.W.heap.size, 2, none⟩ = some (.int .i64 c.lst) := by rw [cell_of_row W1 _ 2 _ _ _ h1]; rfl
  have x3 : W1.cell? ⟨c.W.heap.size, 3, none⟩ = some (.slice c.ga c.gn c.gc) := by rw [cell_of_row W1 _ 3 _ _ _ h1]; rfl
  have hcall := peers_any { c with W := W1 } la0 ln0 lc0 sa0 sn0 sc0 xl0 xs0 n fs ss vs (HH.out.grow hB)
  have HK : Hid (Calls Try.prog 27 #[.pointer (some ⟨c.P, 0, none⟩), .agg #[.int .i64 c.tick, .int .i64 c.fst, .int .i64 c.lst, .slice c.ga c.gn c.gc], .agg C] W1 (PeersPost { c with W := W1 } n fs ss vs)) := by rw [← HC.out]; exact hcall
  clear hcall
  go_wp2_with (first | (refine wpList_loadRow _ rfl _ 36 rfl _ rfl _ rl ?_) | fail)
  refine HK.out.mono ?_
  rintro e w2 ⟨la, lc, sa, sc, xl, xs, rfl, hps, hfull⟩
  go_wp2_with fail
  refine bodyPost_ret (results_none rfl _ _ _) rfl ?_
  exact ⟨W1, la, lc, sa, sc, xl, xs, rfl, hB, hps, hfull⟩
end Go.Proofs.Qxb6603396a
