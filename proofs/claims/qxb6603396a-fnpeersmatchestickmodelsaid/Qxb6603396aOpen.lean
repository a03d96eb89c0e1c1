import Derived.Test.Qxb6603396aGrid
import Derived.Deep.Slices
import Derived.Lib.SmallJoins
import Derived.OpenShut
namespace Go.Proofs.Qxb6603396a
open Go.RowKit Go.Deep Go.Joins Ieee

instance : Inhabited Ser := ⟨⟨⟨#[]⟩, 0, none, 0, 0, 0, 0, 0, false⟩⟩


section
variable {H : Type} {enc : TypeId × Value → H} {P : Program} {w : World} {base : Nat} {spare : Nat → Bool} {held : Bool}

theorem trod_flt {t : TypeId} {k : FloatKind} {fuel : Nat} {cs : List Value} {x : DataW H × List MemPlace} (ht : P.underlying t = some (.float k)) (h : DataW.trod enc P w base spare held fuel t cs = some x) : ∃ b, cs = [.float k b] := by
  cases fuel with
  | zero => simp [DataW.trod] at h
  | succ n =>
    unfold DataW.trod at h
    rw [ht] at h
    split at h <;> simp_all

/-- A slice of one-cell elements that came in. -/
theorem open_vw {α : Type} [Inhabited α] {f : α → Value} {d : α} {t e : TypeId} {fuel : Nat} {a : Option Addr} {n c : Nat} {x : DataW H × List MemPlace} (ht : P.underlying t = some (.slice e)) (hc : P.cellsOf e = 1)
    (hel : ∀ m v y, DataW.trod enc P w base spare held m e [v] = some y → ∃ z, v = f z) (h : DataW.trod enc P w base spare held fuel t [.slice a n c] = some x) :
    (a = none → n = 0) ∧ n ≤ maxLen ∧ ∃ xs, Vw f d w a n xs := by
  rcases open_slice1 ht hc h with ⟨h0, _⟩ | ⟨a', len, cap, m, n', V, D, Pl, hcs, hb, hl, hm, hmm, _, hx⟩
  · simp at h0
    obtain ⟨rfl, rfl, rfl⟩ := h0
    exact ⟨fun _ => rfl, Nat.zero_le _, [], rfl, fun h => absurd rfl h⟩
  · simp at hcs
    obtain ⟨rfl, rfl, rfl⟩ := hcs
    have hle : n ≤ m := by rw [hmm]; split <;> omega
    obtain ⟨F, hF⟩ := choose_lt (α := α) (n := n) (p := fun i z => V i = f z) (fun i hi => hel _ _ _ (hx i (by omega)).2)
    refine ⟨(fun h => by cases h), by omega, (List.range n).map F, by simp, fun h0 => ?_⟩
    obtain ⟨b, off, spot⟩ := a'
    have hspot : spot = none := by simpa [Addr.add] using World.cell?_spot (hx 0 (by omega)).1
    subst hspot
    refine ⟨b, off, rfl, fun i hi => ?_⟩
    have hc := (hx i (by omega)).1
    rw [Addr.add_lit] at hc
    rw [hc, hF i hi]
    simp [List.getD_eq_getElem?_getD, hi]
end

section
variable {H : Type} {enc : TypeId × Value → H} {w : World} {base : Nat} {spare : Nat → Bool} {held : Bool}

theorem open_intVw {t e : TypeId} {k : IntKind} {fuel : Nat} {a : Option Addr} {n c : Nat} {x : DataW H × List MemPlace} (ht : Try.prog.underlying t = some (.slice e)) (he : Try.prog.underlying e = some (.int k)) (hc : Try.prog.cellsOf e = 1)
    (h : DataW.trod enc Try.prog w base spare held fuel t [.slice a n c] = some x) : (a = none → n = 0) ∧ n ≤ maxLen ∧ ∃ xs : List Int, Vw (.int k) 0 w a n xs :=
  open_vw ht hc (fun m v y hv => by obtain ⟨z, hz, _⟩ := DataW.trod_int he hv; simp at hz; exact ⟨z, hz⟩) h
theorem open_fltVw {fuel : Nat} {a : Option Addr} {n c : Nat} {x : DataW H × List MemPlace}
    (h : DataW.trod enc Try.prog w base spare held fuel 42 [.slice a n c] = some x) : (a = none → n = 0) ∧ n ≤ maxLen ∧ ∃ xs : List Nat, Vw (.float .f64) 0 w a n xs :=
  open_vw Try.underlying42 (by kernel_rfl) (fun m v y hv => by obtain ⟨z, hz⟩ := trod_flt Try.underlying22 hv; simp at hz; exact ⟨z, hz⟩) h

/-- One series that came in, out of its seven cells. -/
def SerIn (w : World) (cs : List Value) (s : Ser) (vs : List Nat) : Prop :=
  cs = s.cells.toList ∧ s.inst.size ≤ maxLen ∧ s.fit ∧ (s.va = none → s.vn = 0) ∧ s.vn ≤ maxLen ∧ Vw (.float .f64) 0 w s.va s.vn vs

theorem open_ser {fuel : Nat} {cs : List Value} {x : DataW H × List MemPlace} (h : DataW.trod enc Try.prog w base spare held fuel 75 cs = some x) : ∃ s vs, SerIn w cs s vs := by
  obtain ⟨xs, m, _, _, hl, hlen, hf⟩ := DataW.trod_struct Try.underlying75 h
  have hl7 : cs.length = 7 := hl.trans (by kernel_rfl)
  have hxl : xs.length = 7 := hlen
  match cs, hl7 with
  | [c0, c1, c2, c3, c4, c5, c6], _ =>
    match xs, hxl with
    | [y0, y1, y2, y3, y4, y5, y6], _ =>
      have k9 : Try.prog.cellsOf 9 = 1 := by kernel_rfl
      have k2 : Try.prog.cellsOf 2 = 1 := by kernel_rfl
      have k42 : Try.prog.cellsOf 42 = 1 := by kernel_rfl
      have k4 : Try.prog.cellsOf 4 = 1 := by kernel_rfl
      have h0 := hf 0 _ rfl
      have h1 := hf 1 _ rfl
      have h2 := hf 2 _ rfl
      have h3 := hf 3 _ rfl
      have h4 := hf 4 _ rfl
      have h5 := hf 5 _ rfl
      have h6 := hf 6 _ rfl
      simp [k9, k2, k42, k4] at h0 h1 h2 h3 h4 h5 h6
      obtain ⟨s0, e0, _, b0⟩ := DataW.trod_string Try.underlying9 h0
      obtain ⟨i1, e1, _, b1⟩ := DataW.trod_int Try.underlying2 h1
      obtain ⟨va, vn, vc, e2⟩ := slice_form Try.underlying42 h2
      obtain ⟨i3, e3, _, b3⟩ := DataW.trod_int Try.underlying2 h3
      obtain ⟨i4, e4, _, b4⟩ := DataW.trod_int Try.underlying2 h4
      obtain ⟨i5, e5, _, b5⟩ := DataW.trod_int Try.underlying2 h5
      obtain ⟨b, e6, _⟩ := DataW.trod_bool Try.underlying4 h6
      simp at e0 e1 e2 e3 e4 e5 e6
      subst e0 e1 e2 e3 e4 e5 e6
      obtain ⟨hn, hm, vs, hv⟩ := open_fltVw h2
      exact ⟨⟨s0, i1, va, vn, vc, i3, i4, i5, b⟩, vs, rfl, b0, ⟨bounds_i64 b1, bounds_i64 b3, bounds_i64 b4⟩, hn, hm, hv⟩

theorem open_grid {fuel : Nat} {a : Option Addr} {n c : Nat} {x : DataW H × List MemPlace} (h : DataW.trod enc Try.prog w base spare held fuel 43 [.slice a n c] = some x) :
    (a = none → n = 0) ∧ n ≤ maxLen ∧ ∃ (ss : Nat → Ser) (vs : Nat → List Nat), VS w a n ss vs ∧ (∀ i, i < n → (ss i).fit) ∧ ∀ i, i < n → (ss i).va = none → (ss i).vn = 0 := by
  have k75 : Try.prog.cellsOf 75 = 7 := by kernel_rfl
  rcases open_slice Try.underlying43 h with ⟨h0, _⟩ | ⟨a', len, cap, m, n', D, Pl, hcs, hb, hl, hm, hmm, _, hx⟩
  · simp at h0
    obtain ⟨rfl, rfl, rfl⟩ := h0
    exact ⟨fun _ => rfl, Nat.zero_le _, fun _ => default, fun _ => [], ⟨fun h => absurd rfl h, (fun i hi => absurd hi (Nat.not_lt_zero i)), (fun i hi => absurd hi (Nat.not_lt_zero i)), (fun i hi => absurd hi (Nat.not_lt_zero i))⟩, (fun i hi => absurd hi (Nat.not_lt_zero i)), (fun i hi => absurd hi (Nat.not_lt_zero i))⟩
  · simp at hcs
    obtain ⟨rfl, rfl, rfl⟩ := hcs
    have hle : n ≤ m := by rw [hmm]; split <;> omega
    rw [k75] at hx
    have hx' : ∀ i, i < n → ∃ p : Ser × List Nat, (∀ q, q < 7 → w.cell? ((a'.add (i * 7)).add q) = p.1.cells.toList[q]?) ∧ p.1.inst.size ≤ maxLen ∧ p.1.fit ∧ (p.1.va = none → p.1.vn = 0) ∧ p.1.vn ≤ maxLen ∧ Vw (.float .f64) 0 w p.1.va p.1.vn p.2 := fun i hi => by
      obtain ⟨cs', h1, h2⟩ := hx i (by omega)
      obtain ⟨_, _, hc⟩ := World.cells?_some h1
      obtain ⟨s, v, rfl, g⟩ := open_ser h2
      exact ⟨(s, v), hc, g⟩
    obtain ⟨F, hF⟩ := choose_lt (α := Ser × List Nat) hx'
    refine ⟨(fun h => by cases h), by omega, fun i => (F i).1, fun i => (F i).2, ⟨fun h0 => ?_, fun i hi => (hF i hi).2.1, fun i hi => (hF i hi).2.2.2.2.2, fun i hi => (hF i hi).2.2.2.2.1⟩, fun i hi => (hF i hi).2.2.1, fun i hi => (hF i hi).2.2.2.1⟩
    obtain ⟨b, off, spot⟩ := a'
    have hspot : spot = none := by simpa [Addr.add] using World.cell?_spot ((hF 0 (by omega)).1 0 (by omega))
    subst hspot
    refine ⟨b, off, rfl, fun i hi => ?_⟩
    have hc := (hF i hi).1
    simp only [Addr.add_lit] at hc
    exact ⟨hc 0 (by omega), hc 1 (by omega), hc 2 (by omega), hc 3 (by omega), hc 4 (by omega), hc 5 (by omega), hc 6 (by omega)⟩
end
end Go.Proofs.Qxb6603396a
