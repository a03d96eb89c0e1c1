import Derived.Test.Qxb6603396aImp
import Derived.Deep.WholeRow
namespace Go.Proofs.Qxb6603396a
open Go.RowKit Ieee
attribute [local go_sem] run_fadd run_fsub run_fmul run_fquo run_fmin run_storef

/-- The cells of a Config: the four that are read, at their places. -/
def CfgCells (V Z B S : Nat) : Array Value := #[.float .f64 0, .int .i64 0, .int .i64 0, .int .i64 0, .float .f64 0, .float .f64 0, .float .f64 0, .float .f64 0, .string ⟨#[]⟩, .float .f64 B, .int .i64 0, .float .f64 0, .string ⟨#[]⟩,
  .float .f64 S, .float .f64 0, .float .f64 0, .float .f64 0, .float .f64 0, .float .f64 0, .float .f64 0, .float .f64 0, .float .f64 0, .float .f64 0, .float .f64 0, .float .f64 0, .float .f64 0, .float .f64 V, .float .f64 Z]

def CfgPost (V Z B S : Nat) (w : World) (e : Ending) (w' : World) : Prop := e = .returned (.agg (CfgCells V Z B S)) ∧ Below w.heap.size w w'

theorem Try.size36 : (Try.prog.info? 36).map (·.size) = some 28 := by kernel_rfl

section
variable {P : Program} (w : World)
/-- A whole struct out of its block, at the operation. -/
theorem wpList_loadRow {ops : Array Oper} {rest : List Oper} {o : Oper} {a : Act} {Q : Exit → Act → World → Prop} (hg : o.guard = none) (x : Operand) (t : TypeId) (hop : o.op = Op.load t x) (p : Addr) (hx : a.eval x = .pointer (some p)) (v : Value)
    (hrun : (loadVar t p).run P w = .ok v w) (h : wpList P ops Q rest (a.put o.dst v) w) : wpList P ops Q (o :: rest) a w := by
  refine wpList_plain hg fun K' hK' => ?_
  unfold Oper.wp
  simp [execOp, hop, hx, Instr.loadAt, Instr.sureAddr, hrun, Result.andThen]
  exact hK' _ _ h
theorem wpList_storeRow {ops : Array Oper} {rest : List Oper} {o : Oper} {a : Act} {Q : Exit → Act → World → Prop} (hg : o.guard = none) (x y : Operand) (t : TypeId) (hop : o.op = Op.store t x y) (p : Addr) (hx : a.eval x = .pointer (some p)) (v : Value) (hy : a.eval y = v)
    (w' : World) (hrun : (storeVar t p v).run P w = .ok () w') (h : wpList P ops Q rest (a.put o.dst undef) w') : wpList P ops Q (o :: rest) a w := by
  refine wpList_plain hg fun K' hK' => ?_
  unfold Oper.wp
  simp [execOp, hop, hx, hy, Instr.storeAt, Instr.sureAddr, hrun, Result.andThen]
  exact hK' _ _ h
end

theorem results_cell {fn : Func} {t : Tmp} {ty : TypeId} (h : fn.results = #[.cell t ty]) (tmps : Array Value) (p : Addr) (hp : tmps.getD t undef = .pointer (some p)) (P : Program) (w : World) (v : Value) (hl : (loadVar ty p).run P w = .ok v w) :
    (results fn tmps).run P w = .ok v w := by
  simp only [Array.getD_eq_getD_getElem?] at hp
  simp [results, h, hp, asAddr, hl]

set_option maxRecDepth 100000 in
theorem config_any (V Z B S : Nat) (w : World) :
    Calls Try.prog 19 #[.agg #[.float .f64 V, .float .f64 Z, .float .f64 B, .float .f64 S]] w (CfgPost V Z B S w) := by
  go_enter Try.func19, Try.ntmps19
  go_upto_region 6 with fail
  go_cut [2, 3] (fun s2 s3 wx => s2 = .pointer (some ⟨w.heap.size + 1, 0, none⟩) ∧ wx.heap[w.heap.size + 1]? = some (.cells (CfgCells V Z B S) 36 (0, 0)) ∧ Below w.heap.size w wx)
  case first =>
    change Code.wp _ _ _ _ (((w.alloc (.cells #[.float .f64 V, .float .f64 Z, .float .f64 B, .float .f64 S] 47)).alloc (.cells (CfgCells 0 0 0 0) 36)).alloc (.cells (CfgCells V Z B S) 36))
    obtain ⟨C, hC⟩ : ∃ C, CfgCells V Z B S = C := ⟨_, rfl⟩
    obtain ⟨C0, hC0⟩ : ∃ C0, CfgCells 0 0 0 0 = C0 := ⟨_, rfl⟩
    have c1 : C.size = 28 := by rw [← hC]; rfl
    have c2 : C0.size = C.size := by rw [← hC, ← hC0]; rfl
    have c3 : C.all (·.oneCell') = true := by rw [← hC]; simp [CfgCells, Value.oneCell']
    rw [hC, hC0]
    obtain ⟨W, hW⟩ : ∃ W, ((w.alloc (.cells #[.float .f64 V, .float .f64 Z, .float .f64 B, .float .f64 S] 47)).alloc (.cells C0 36)).alloc (.cells C 36) = W := ⟨_, rfl⟩
    rw [hW]
    have h1 : W.heap[w.heap.size + 1]? = some (.cells C0 36 (0, 0)) := by
      rw [← hW, Below.heap_alloc _ _ _ (by simp)]
      have := heap_alloc_last (w.alloc (.cells #[.float .f64 V, .float .f64 Z, .float .f64 B, .float .f64 S] 47)) (.cells C0 36)
      simpa using this
    have h2 : W.heap[w.heap.size + 1 + 1]? = some (.cells C 36 (0, 0)) := by
      rw [← hW]
      have := heap_alloc_last ((w.alloc (.cells #[.float .f64 V, .float .f64 Z, .float .f64 B, .float .f64 S] 47)).alloc (.cells C0 36)) (.cells C 36)
      simpa using this
    have hB : Below w.heap.size w W := by rw [← hW]; exact (((Below.refl _ _).alloc (Nat.le_refl _) _).alloc (by simp) _).alloc (by simp; omega) _
    clear hW hC0
    have HC : Hid (CfgCells V Z B S = C) := hC
    clear hC
    have rl : (loadVar 36 ⟨w.heap.size + 1 + 1, 0, none⟩).run Try.prog W = .ok (.agg C) W := run_loadVar_row _ _ _ _ C (0, 0) _ h2 Try.underlying36 rfl (by rw [Try.size36, c1])
    have rs : (storeVar 36 ⟨w.heap.size + 1, 0, none⟩ (.agg C)).run Try.prog W = .ok () (W.setRow (w.heap.size + 1) C) := run_storeVar_row _ _ _ _ C0 C h1 (by rw [Try.size36, c1]) c2 c3
    go_wp2_with (first | (refine wpList_loadRow _ rfl _ 36 rfl _ rfl _ rl ?_) | (refine wpList_storeRow _ rfl _ _ 36 rfl _ rfl _ rfl _ rs ?_) | fail)
    go_meet
    refine ⟨rfl, ?_, ?_⟩
    · rw [HC.out]; exact setRow_heap _ _ _ _ _ _ h1
    · exact hB.trans ⟨rfl, rfl, rfl, by simp, fun k hk => setRow_other _ _ _ _ (by omega)⟩
  case rest =>
    obtain ⟨rfl, h1, hB⟩ := hcut
    have rl : (loadVar 36 ⟨w.heap.size + 1, 0, none⟩).run Try.prog wc = .ok (.agg (CfgCells V Z B S)) wc := run_loadVar_row _ _ _ _ _ (0, 0) _ h1 Try.underlying36 rfl (by rw [Try.size36]; rfl)
    go_wp2_with fail
    refine bodyPost_ret (results_cell rfl _ _ rfl _ _ _ rl) rfl ?_
    exact ⟨rfl, hB⟩
end Go.Proofs.Qxb6603396a
