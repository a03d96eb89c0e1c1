import Derived.Test.Qxb6602870aFirst
namespace Go.Proofs.Qxb6602870a
open Go.RowKit

theorem view_drop {w : World} {b off n cap k : Nat} {U : List Nat} (h : View w (some ⟨b, off, none⟩) n U) (hk : k ≤ n) (hc : n ≤ cap) :
    View w (if cap = k then some ⟨b, off, none⟩ else some ⟨b, off + k, none⟩) (n - k) (U.drop k) := by
  refine ⟨by rw [List.length_drop, h.len], fun z hz => h.byte z (List.mem_of_mem_drop hz), fun hn => ?_⟩
  obtain ⟨b', off', e, hcell⟩ := h.cell (by omega)
  simp only [Option.some.injEq, Addr.mk.injEq, and_true] at e
  obtain ⟨rfl, rfl⟩ := e
  rw [if_neg (by omega)]
  refine ⟨b, off + k, rfl, fun i hi => ?_⟩
  rw [Nat.add_assoc, hcell (k + i) (by omega), List.getD_eq_getElem?_getD, List.getD_eq_getElem?_getD, List.getElem?_drop]

def Query (w : World) (s : Nat) (U : List Nat) (e : Ending) (w' : World) : Prop := e = .returned (.int .u8 (((run s U).1 : Nat) : Int)) ∧ w' = w

set_option maxRecDepth 100000 in
set_option maxHeartbeats 400000 in
theorem query_any {w : World} {a : Option Addr} {n : Nat} {U : List Nat} (hv : View w a n U) (cap s : Nat) (hs : s = 2 ∨ s = 4) (hn : n ≤ 1048576) (hcap : n ≤ cap) (hU : ∀ x ∈ U, x ≠ 35) :
    Calls Try.prog 25 #[.int .u8 (s : Int), .slice a n cap] w (Query w s U) := by
  go_enter Try.func25, Try.ntmps25
  go_wp2_with fail
  refine (last_any hv cap hn).mono ?_
  rintro e w' ⟨r, rfl, hw', hr⟩
  subst w'
  rcases hr with ⟨rfl, hno⟩ | ⟨k, rfl, hk, hsep, hafter⟩
  · have hno' : ∀ x ∈ U, x ≠ 35 ∧ x ≠ 38 ∧ x ≠ 59 := fun x hx => ⟨hU x hx, fun e => hno x hx (.inl e), fun e => hno x hx (.inr e)⟩
    have HR : Hid ((run s U).1 = if s = 4 ∨ 61 ∈ U then 4 else 2) := run_seg hs U hno'
    clear hno hno' hU
    rcases hs with rfl | rfl
    · go_wp2_with fail
      refine (first_any hv cap 61 hn).mono ?_
      rintro e w' ⟨r, rfl, hw', hr⟩
      subst w'
      rcases hr with ⟨rfl, hno⟩ | ⟨k, rfl, hk, he, _⟩
      · have H2 : Hid ((run 2 U).1 = 2) := by rw [HR.out]; show _ = _; rw [if_neg (by rintro (h | h); (· omega); (· exact hno h))]
        clear HR hno hv
        go_wp2
        go_ret
        exact ⟨by rw [H2.out]; rfl, rfl⟩
      · have hm : 61 ∈ U := by rw [← he, List.getD_eq_getElem?_getD, List.getElem?_eq_getElem hk]; exact List.getElem_mem hk
        have H2 : Hid ((run 2 U).1 = 4) := by rw [HR.out]; show _ = _; rw [if_pos (.inr hm)]
        clear HR hm hv he
        go_wp2
        go_ret
        exact ⟨by rw [H2.out]; rfl, rfl⟩
    · have H2 : Hid ((run 4 U).1 = 4) := by rw [HR.out]; show _ = _; rw [if_pos (.inl rfl)]
      clear HR hv
      go_wp2
      go_ret
      exact ⟨by rw [H2.out]; rfl, rfl⟩
  · obtain ⟨b, off, rfl, hc⟩ := hv.cell (by have := hv.len; omega)
    have hl := hv.len
    have hk1 : (k : Int) + 1 ≤ (n : Int) := by omega
    have hk2 : (k : Int) + 1 ≤ (cap : Int) := by omega
    have hn' : (n : Int) ≤ (cap : Int) := by omega
    obtain ⟨A, hA, hVA⟩ : ∃ A, (if cap = k + 1 then some (⟨b, off, none⟩ : Addr) else some ⟨b, off + (k + 1), none⟩) = A ∧ View w A (n - (k + 1)) (U.drop (k + 1)) := ⟨_, rfl, view_drop hv (by omega) hcap⟩
    have HR : Hid ((run s U).1 = if 61 ∈ U.drop (k + 1) then 4 else 2) := by
      have e : U = U.take k ++ U.getD k 0 :: U.drop (k + 1) := by
        rw [List.getD_eq_getElem?_getD, List.getElem?_eq_getElem hk]
        simp
      show _ = _
      conv => lhs; rw [e]
      refine run_last hs _ _ _ hsep (fun x hx => hU x (List.mem_of_mem_take hx)) (fun x hx => ?_)
      have hx2 := List.mem_of_mem_drop hx
      obtain ⟨j, hj, ej⟩ := mem_getD hx
      have ej' : U.getD (k + 1 + j) 0 = x := by rw [← ej, List.getD_eq_getElem?_getD, List.getD_eq_getElem?_getD, List.getElem?_drop]
      have hns := hafter (k + 1 + j) (by omega) (by rw [List.length_drop] at hj; omega)
      rw [ej'] at hns
      exact ⟨hU x hx2, fun e => hns (.inl e), fun e => hns (.inr e)⟩
    clear hv hc hsep hafter hU hl hk
    go_wp2_with fail
    refine (first_any hVA _ 61 (by omega)).mono ?_
    rintro e w' ⟨r, rfl, hw', hr⟩
    subst w'
    rcases hr with ⟨rfl, hno⟩ | ⟨q, rfl, hk, he, _⟩
    · have H2 : Hid ((run s U).1 = 2) := by rw [HR.out]; show _ = _; rw [if_neg hno]
      clear HR hno hVA
      go_wp2
      go_ret
      exact ⟨by rw [H2.out]; rfl, rfl⟩
    · have hm : 61 ∈ U.drop (k + 1) := by rw [← he, List.getD_eq_getElem?_getD, List.getElem?_eq_getElem hk]; exact List.getElem_mem hk
      have H2 : Hid ((run s U).1 = 4) := by rw [HR.out]; show _ = _; rw [if_pos hm]
      clear HR hm hVA he
      go_wp2
      go_ret
      exact ⟨by rw [H2.out]; rfl, rfl⟩
end Go.Proofs.Qxb6602870a
