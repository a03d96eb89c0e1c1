import Derived.Test.Qxb6603396aGrid
namespace Go.Proofs.Qxb6603396a
open Go.RowKit Ieee
attribute [local go_sem] run_fadd run_fsub run_fmul run_fquo run_fmin run_storef

theorem zeroCells_f (m : Nat) : Builtin.zeroCells #[.float .f64 0] m = (List.replicate m (Value.float .f64 0)).toArray := by
  apply Array.ext'
  simp [Builtin.zeroCells]
  apply List.ext_getElem
  · simp
  · intro i h1 h2
    simp [Nat.mod_one]

section
variable {P : Program} (w : World)
theorem run_append_zeros (base : Nat) (t u ty e : TypeId) (i : TypeInfo) (ht : P.underlying t = some (.slice e)) (hu : P.underlying u = some (.int .i64)) (hi : P.info? e = some i) (hz : i.zero = some (.float .f64 0)) (hsize : i.size = 1) (hby : i.bytes = 8)
    (v : Value) (hown : w.ownsRow base e 1 v 0 []) (m : Nat) (hm : m ≤ 65536) (hbase : base ≤ w.heap.size) :
    ∃ v' w', (Builtin.append_ #[t, u] ty #[v, .int .i64 (m : Int)]).run P w = .ok v' w' ∧ w'.ownsRow base e 1 v' m (List.replicate m (.float .f64 0)) ∧ w.grownBy w' v.ownBlock ∧ (v'.ownBlock = v.ownBlock ∨ v'.ownBlock = some w.heap.size) := by
  have hw64 : IntKind.i64.wrap (m : Int) = (m : Int) := by rw [IntKind.wrap_i64]; omega
  have hng : ¬ ((m : Int) < 0) := by omega
  have hbig : ¬ (281474976710656 < (m : Int) * 8) := by omega
  have h63' : ¬ (9223372036854775807 < (m : Int)) := by omega
  have hai : ∀ w : World, (asInt (.int .i64 (m : Int))).run P w = .ok (m : Int) w := fun w => by simp [asInt, asIntOf]
  have hai0 : ∀ w : World, (asInt (.int .i64 0)).run P w = .ok 0 w := fun w => by simp [asInt, asIntOf]
  have hw0 : IntKind.i64.wrap 0 = 0 := by decide
  have hzc : (Value.float FloatKind.f64 0).cells = #[Value.float .f64 0] := rfl
  have grown : ∀ (old : Nat) (row : Option Nat),
      (w.drew.alloc (.cells ((List.replicate m (Value.float .f64 0)).toArray ++ Builtin.zeroCells #[.float .f64 0] (grownCap w m old e - m)) e)).ownsRow base e 1
        (.slice (some ⟨w.heap.size, 0, none⟩) m (grownCap w m old e)) m (List.replicate m (.float .f64 0)) ∧
      w.grownBy (w.drew.alloc (.cells ((List.replicate m (Value.float .f64 0)).toArray ++ Builtin.zeroCells #[.float .f64 0] (grownCap w m old e - m)) e)) row := by
    intro old row
    have hge := grownCap_ge w m old e
    have hcm : grownCap w m old e ≤ maxLen := grownCap_le_maxLen w m old e (by unfold maxLen; omega)
    refine ⟨⟨by simp, .inr ⟨w.heap.size, _, _, rfl, hbase, heap_alloc_new w.drew _, hge, hcm, ?_, ?_⟩⟩, ⟨rfl, rfl, rfl, by simp, fun k hk _ => Below.heap_alloc w.drew _ k hk⟩⟩
    · simp only [Array.size_append, List.size_toArray, size_zeroCells, List.length_replicate]
      simp; omega
    · simp only [Array.toList_append]
      have : m * 1 = (List.replicate m (Value.float FloatKind.f64 0)).length := by simp
      rw [this]
      exact List.take_left
  rcases hown.2 with ⟨rfl, _⟩ | ⟨g, cap, cur, rfl, hbg, hg, hnc, hcm, hcs, htake⟩
  · by_cases h0 : m = 0
    · subst h0
      refine ⟨.slice none 0 0, w, ?_, World.ownsRow_nil w base e 1, ⟨rfl, rfl, rfl, Nat.le_refl _, fun _ _ _ => rfl⟩, Or.inl rfl⟩
      simp [Builtin.append_, run_underlying ht, run_underlying hu, sizeOf, typeInfo, hi, hby, hai0, hw0]
    · have hfit : ¬ (281474976710656 < Builtin.nextslicecap m 0 * 8) := by
        have := growslice_fits (need := m) (old := 0) (bytes := 8) (by omega) (by omega); omega
      have hgr := grown 0 (Value.ownBlock (.slice none 0 0))
      refine ⟨_, _, ?_, hgr.1, hgr.2, Or.inr rfl⟩
      simp [Builtin.append_, run_underlying ht, run_underlying hu, sizeOf, typeInfo, zeroValue, hi, hz, hsize, hby, hai, hw64, hng, hbig, h63', h0, hfit, Question.forced, Builtin.firstCells, newRow, grownCap, hzc, zeroCells_f]
  · by_cases hroom : m ≤ cap
    · have hst := run_storeCells_at P g 0 e (List.replicate m (Value.float .f64 0)) 0 cur w hg (by simp; omega) (fun u hu => by rw [(List.mem_replicate.1 hu).2]; rfl)
      simp only [Nat.add_zero, Nat.zero_add] at hst
      refine ⟨.slice (some ⟨g, 0, none⟩) m cap, w.setRow g ((List.replicate m (Value.float .f64 0)) ++ cur.toList.drop m).toArray, ?_, ⟨by simp, .inr ⟨g, cap, _, rfl, hbg, setRow_heap w g cur _ e _ hg, hroom, hcm, ?_, ?_⟩⟩, ⟨rfl, rfl, rfl, by simp, fun k _ hk => setRow_other w g k _ (fun e => hk (by simp [Value.ownBlock, e]))⟩, Or.inl rfl⟩
      · by_cases h0 : m = 0
        · subst h0
          have e0 : w.setRow g ((List.replicate 0 (Value.float .f64 0)) ++ cur.toList.drop 0).toArray = w := by
            have hst' := hst
            simp [storeCells] at hst'
            simpa using hst'.symm
          rw [e0]
          simp [Builtin.append_, run_underlying ht, run_underlying hu, sizeOf, typeInfo, hi, hby, hai0, hw0, storeCells]
        · simp [Builtin.append_, run_underlying ht, run_underlying hu, sizeOf, typeInfo, zeroValue, hi, hz, hsize, hby, hai, hw64, hng, hbig, h0, hroom, hzc, zeroCells_f, Addr.add_lit]
          have hst2 := hst
          simp at hst2
          rw [hst2]
          rfl
      · simp; omega
      · have : m * 1 = (List.replicate m (Value.float FloatKind.f64 0)).length := by simp
        rw [this]; exact List.take_left
    · have hfit : ¬ (281474976710656 < Builtin.nextslicecap m cap * 8) := by
        have := growslice_fits (need := m) (old := cap) (bytes := 8) (by omega) (by omega); omega
      have hn : ¬ (m ≤ cap) := by omega
      have h0 : m ≠ 0 := by omega
      have hgr := grown cap (Value.ownBlock (.slice (some ⟨g, 0, none⟩) 0 cap))
      have hf0 : ∀ w : World, (Builtin.firstCells 1 0 (.slice (some ⟨g, 0, none⟩) 0 cap)).run P w = .ok #[] w := fun w => by
        simp [Builtin.firstCells, loadCells, loadCellsFrom]
      refine ⟨_, _, ?_, hgr.1, hgr.2, Or.inr rfl⟩
      simp [Builtin.append_, run_underlying ht, run_underlying hu, sizeOf, typeInfo, zeroValue, hi, hz, hsize, hby, hai, hw64, hng, hbig, h63', hn, h0, hfit, Question.forced, hf0, newRow, grownCap, hzc, zeroCells_f]

theorem wpList_append_zeros {ops : Array Oper} {rest : List Oper} {o : Oper} {a : Act} {Q : Exit → Act → World → Prop} (hgd : o.guard = none) (s x : Operand) (t u : TypeId)
    (ho : o.op = .call { callee := .builtin .append, args := #[s, x], argTypes := #[t, u] })
    (base : Nat) (e : TypeId) (i : TypeInfo) (ht : P.underlying t = some (.slice e)) (hu : P.underlying u = some (.int .i64)) (hi : P.info? e = some i) (hz : i.zero = some (.float .f64 0)) (hsize : i.size = 1) (hby : i.bytes = 8)
    (v : Value) (hs : a.eval s = v) (hown : w.ownsRow base e 1 v 0 []) (m : Nat) (hx : a.eval x = .int .i64 (m : Int)) (hm : m ≤ 65536) (hbase : base ≤ w.heap.size)
    (h : ∀ v' w', w'.ownsRow base e 1 v' m (List.replicate m (.float .f64 0)) → w.grownBy w' v.ownBlock → (v'.ownBlock = v.ownBlock ∨ v'.ownBlock = some w.heap.size) → wpList P ops Q rest (a.put o.dst v') w') :
    wpList P ops Q (o :: rest) a w := by
  refine wpList_plain hgd fun K hK => ?_
  obtain ⟨v', w', hr, h2, h3, h4⟩ := run_append_zeros (P := P) w base t u o.type e i ht hu hi hz hsize hby v hown m hm hbase
  unfold Oper.wp execOp
  simp only [ho, resolve, invoke, builtin, Sem.run_bind, Sem.run_pure, Result.andThen_ok, List.map_toArray, List.map_cons, List.map_nil, hs, hx, hr]
  exact hK _ _ (h v' w' h2 h3 h4)

/-- The empty head of an owned slice. -/
theorem own_head {w : World} {base n c : Nat} {e : TypeId} {a : Option Addr} {xs : List Value} (h : w.ownsRow base e 1 (.slice a n c) n xs) : w.ownsRow base e 1 (.slice a 0 c) 0 [] := by
  rcases h.2 with ⟨hv, _⟩ | ⟨g, cap, cur, hv, hb, hg, h1, h2, h3, _⟩
  · cases hv; exact World.ownsRow_nil _ _ _ _
  · cases hv; exact ⟨by simp, .inr ⟨g, c, cur, rfl, hb, hg, Nat.zero_le _, h2, h3, by simp⟩⟩
end
end Go.Proofs.Qxb6603396a
