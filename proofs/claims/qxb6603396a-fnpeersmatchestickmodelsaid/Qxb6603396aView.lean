import Derived.Test.Qxb6603396aShare
import Derived.Deep.LoopGhost
import Derived.Lib.SliceRun
namespace Go.Proofs.Qxb6603396a
open Go.RowKit Ieee

/-- What is known of a slice of one-cell elements that is read. -/
structure Vw {α : Type} (f : α → Value) (d : α) (w : World) (a : Option Addr) (n : Nat) (xs : List α) : Prop where
  len : xs.length = n
  cell : n ≠ 0 → ∃ b off, a = some ⟨b, off, none⟩ ∧ ∀ i, i < n → w.cell? ⟨b, off + i, none⟩ = some (f (xs.getD i d))

/-- The series of a grid that is read: each its seven cells, each its values. -/
structure VS (w : World) (a : Option Addr) (n : Nat) (ss : Nat → Ser) (vs : Nat → List Nat) : Prop where
  cell : n ≠ 0 → ∃ b off, a = some ⟨b, off, none⟩ ∧ ∀ i, i < n → w.cell? ⟨b, off + i * 7, none⟩ = some (.string (ss i).inst) ∧ w.cell? ⟨b, off + i * 7 + 1, none⟩ = some (.int .i64 (ss i).first) ∧
    w.cell? ⟨b, off + i * 7 + 2, none⟩ = some (.slice (ss i).va (ss i).vn (ss i).vc) ∧ w.cell? ⟨b, off + i * 7 + 3, none⟩ = some (.int .i64 (ss i).kf) ∧ w.cell? ⟨b, off + i * 7 + 4, none⟩ = some (.int .i64 (ss i).kl) ∧
    w.cell? ⟨b, off + i * 7 + 5, none⟩ = some (.int .i64 (ss i).start) ∧ w.cell? ⟨b, off + i * 7 + 6, none⟩ = some (.bool (ss i).has)
  str : ∀ i, i < n → (ss i).inst.size ≤ maxLen
  vals : ∀ i, i < n → Vw (.float .f64) 0 w (ss i).va (ss i).vn (vs i)
  vmax : ∀ i, i < n → (ss i).vn ≤ maxLen

def IntPost (w : World) (e : Ending) (w' : World) : Prop := ∃ r, e = .returned (.int .i64 r) ∧ Below w.heap.size w w'

set_option maxRecDepth 100000 in
set_option maxHeartbeats 400000 in
theorem gridBytes_any (tick fst lst : Int) (a : Option Addr) (n c : Nat) (ss : Nat → Ser) (vs : Nat → List Nat) (w : World) (hv : VS w a n ss vs) (hn : n ≤ maxLen) :
    Calls Try.prog 10 #[.agg #[.int .i64 tick, .int .i64 fst, .int .i64 lst, .slice a n c]] w (IntPost w) := by
  unfold maxLen at hn
  by_cases h0 : n ≤ 1048576
  · go_enter Try.func10, Try.ntmps10
    go_wp2
    generalize hW0 : w.alloc (.cells #[.int .i64 tick, .int .i64 fst, .int .i64 lst, .slice a n c] 45) = W0
    have hbox : W0.cell? ⟨w.heap.size, 3, none⟩ = some (.slice a n c) := by rw [← hW0]; simp
    have hB0 : Below w.heap.size w W0 := by rw [← hW0]; exact (Below.refl _ _).alloc (Nat.le_refl _) _
    have hs0 : w.heap.size + 1 ≤ W0.heap.size := by rw [← hW0]; simp
    clear hW0
    go_loopg [3, 4] n (fun gk s3 s4 wr => ∃ (T : Int) (i : Nat), s3 = .int .i64 T ∧ s4 = .int .i64 (i : Int) ∧ i ≤ n ∧ gk = n - i ∧ Below (w.heap.size + 1) W0 wr)
    case atStart => exact ⟨_, 0, rfl, rfl, Nat.zero_le _, rfl, Below.refl _ _⟩
    case round =>
      obtain ⟨T, i, rfl, rfl, hi, rfl, hbel⟩ := hrel
      have hbx := (hbel.cell (p := ⟨w.heap.size, 3, none⟩) (by simp)).trans hbox
      have hBw : Below w.heap.size w wr := hB0.trans (hbel.mono (by omega))
      by_cases hlt : i < n
      · obtain ⟨b, off, rfl, hc⟩ := hv.cell (by omega)
        obtain ⟨c0, c1, c2, c3, c4, c5, c6⟩ := hc i hlt
        have hb := World.block_lt_of_cell? w _ c0
        have k0 := (hBw.cell (p := ⟨b, off + i * 7, none⟩) hb).trans c0
        have k1 := (hBw.cell (p := ⟨b, off + i * 7 + 1, none⟩) hb).trans c1
        have k2 := (hBw.cell (p := ⟨b, off + i * 7 + 2, none⟩) hb).trans c2
        have k3 := (hBw.cell (p := ⟨b, off + i * 7 + 3, none⟩) hb).trans c3
        have k4 := (hBw.cell (p := ⟨b, off + i * 7 + 4, none⟩) hb).trans c4
        have k5 := (hBw.cell (p := ⟨b, off + i * 7 + 5, none⟩) hb).trans c5
        have k6 := (hBw.cell (p := ⟨b, off + i * 7 + 6, none⟩) hb).trans c6
        generalize ss i = s at *
        clear c0 c1 c2 c3 c4 c5 c6 hc hv
        have hsz : w.heap.size + 1 ≤ wr.heap.size := Nat.le_trans hs0 hbel.size
        go_wp2
        all_goals first
          | (go_ret; exact ⟨_, rfl, hBw⟩)
          | (go_ret; exact ⟨_, rfl, hBw.alloc (by omega) _⟩)
          | skip
        go_roundg (n - (i + 1))
        case measure => omega
        case rel => exact ⟨_, i + 1, rfl, by go_num, hlt, rfl, hbel.alloc hsz _⟩
      · clear hv
        go_wp2
        go_ret
        exact ⟨_, rfl, hBw⟩
  · go_enter Try.func10, Try.ntmps10
    go_wp2
    go_ret
    exact ⟨_, rfl, (Below.refl _ _).alloc (Nat.le_refl _) _⟩
end Go.Proofs.Qxb6603396a
