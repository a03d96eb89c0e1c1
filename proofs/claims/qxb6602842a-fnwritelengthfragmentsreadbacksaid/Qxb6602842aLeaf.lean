import Derived.Test.Qxb6602842aState
import Derived.Deep.LoopGhost
import Derived.OpenShut
namespace Go.Proofs.Qxb6602842a
open Go.RowKit

set_option maxHeartbeats 400000 in
theorem clone_any (a : Option Addr) (n cap : Nat) (B : List Nat) (w : World) (hv : View w a n B) (hn : n ≤ 1048576) (ha : a = none → n = 0) :
    Calls Try.prog 9 #[.slice a n cap] w fun e w' => ∃ ao cp, e = .returned (.slice ao n cp) ∧ w'.ownsRow w.heap.size 5 1 (.slice ao n cp) n (octs B) ∧ Below w.heap.size w w' := by
  have qT : ∀ (w : World) (a : Option Addr) (n c n' c' : Nat), (binOp .eql 22 (.slice a n c) (.slice none n' c')).run Try.prog w = .ok (.bool a.isNone) w := fun w a n c n' c' => Lib.run_eql_slice_nil w _ _ a n c n' c' Try.underlying22
  cases a with
  | none =>
    obtain rfl := ha rfl
    have hB : B = [] := List.eq_nil_of_length_eq_zero hv.len
    subst hB
    clear hv ha
    go_enter Try.func9, Try.ntmps9
    go_wp2
    go_ret
    exact ⟨_, _, rfl, World.ownsRow_nil _ _ _ _, Below.refl _ _⟩
  | some x =>
    clear ha
    obtain ⟨i0, hi, hz0, hz1, hz2⟩ := info_parts Try.info5
    obtain ⟨hlen, hbyte, hcell⟩ := hv
    have hm : n ≤ maxLen := by unfold maxLen; omega
    have hb2 : i0.bytes * n ≤ 281474976710656 := by rw [hz2]; omega
    go_enter Try.func9, Try.ntmps9
    go_wp2_with (at_make; refine wpList_make_full _ rfl _ _ 22 rfl w.heap.size 5 i0 (.int .u8 0) 1 Try.underlying22 hi hz0 hz1 _ _ _ _ n rfl rfl rfl rfl hb2 hm (Nat.le_refl _) ?_)
    intro w1 hown hgrow
    rw [madeCells_octs] at hown
    have hbel : Below w.heap.size w w1 := (Below.refl _ _).grown hgrow (Nat.le_refl _) (by simp)
    have hw1 : w.heap.size ≤ w1.heap.size := hbel.size
    clear hgrow
    go_wp2
    go_loopw [4] (fun i wr => ∃ k : Nat, k ≤ n ∧ i = .int .i64 k ∧ wr.ownsRow w.heap.size 5 1 (.slice (some ⟨w.heap.size, 0, none⟩) n n) n (octs (B.take k ++ List.replicate (n - k) 0)) ∧ Below w.heap.size w wr) (fun i _ => n - (intOf i).toNat)
    case atStart => exact ⟨0, Nat.zero_le _, rfl, by simpa using hown, hbel⟩
    case round =>
      obtain ⟨k, hk, rfl, hown, hbel⟩ := hrel
      by_cases hlt : k < n
      · obtain ⟨b, off, he, hc⟩ := hcell (by omega)
        simp only [Option.some.injEq] at he
        subst he
        have hc1 : wr.cell? ⟨b, off + k, none⟩ = some (.int .u8 ((B.getD k 0 : Nat) : Int)) := (hbel.cell (World.block_lt_of_cell? w _ (hc k hlt))).trans (hc k hlt)
        have hs := set_clone B k (by omega)
        generalize B.getD k 0 = z at hc1 hs
        have hf := hown.frozenAt k
        have hst := hown.cellAt k (by omega)
        have hst' : ∃ u, wr.cell? ⟨w.heap.size, k, none⟩ = some u := ⟨_, hst.trans (List.getElem?_eq_getElem (by have := hown.1; omega))⟩
        obtain ⟨u, hu⟩ := hst'
        have hown2 := (hown.stored k (.int .u8 (z : Int))).1
        have hbel2 : Below w.heap.size w (wr.setCell ⟨w.heap.size, k, none⟩ (.int .u8 (z : Int))) := hbel.setCell (Nat.le_refl _) _
        have HO : (wr.setCell ⟨w.heap.size, k, none⟩ (.int .u8 (z : Int))).ownsRow w.heap.size 5 1 (.slice (some ⟨w.heap.size, 0, none⟩) n n) n (octs (B.take (k + 1) ++ List.replicate (n - (k + 1)) 0)) := by
          rw [← hlen] at hown2 ⊢
          rw [← hs]
          unfold octs at hown2 ⊢
          rw [List.map_set]
          exact hown2
        clear hown hst hown2 hcell hc hs
        go_wp2
        go_roundw
        case rel => exact ⟨k + 1, by omega, by go_num, HO, hbel2⟩
        case measure => simp [intOf]; omega
      · have hkn : k = n := by omega
        subst hkn
        have hown' : wr.ownsRow w.heap.size 5 1 (.slice (some ⟨w.heap.size, 0, none⟩) k k) k (octs B) := by
          have e := hown
          rw [Nat.sub_self, List.replicate_zero, List.append_nil, List.take_of_length_le (by omega)] at e
          exact e
        clear hown hcell
        go_wp2
        go_ret
        exact ⟨_, _, rfl, hown', hbel⟩

theorem bit_any (b off n cap i z : Nat) (w : World) (hz : z < 256) (hi : i / 8 < n) (hb : i ≤ 1000000000)
    (hcell : w.cell? ⟨b, off + i / 8, none⟩ = some (.int .u8 (z : Int))) :
    Calls Try.prog 14 #[.slice (some ⟨b, off, none⟩) n cap, .int .i64 (i : Int)] w fun e w' => e = .returned (.int .u8 ((z / 2 ^ (7 - i % 8) % 2 : Nat) : Int)) ∧ w' = w := by
  have hlt : z / 2 ^ (7 - i % 8) < 256 := Nat.lt_of_le_of_lt (Nat.div_le_self _ _) hz
  have e : bits BinOp.and IntKind.u8 ((z : Int) / 2 ^ (7 - i % 8)) 1 = ((z / 2 ^ (7 - i % 8) % 2 : Nat) : Int) := by
    rw [show ((z : Int) / 2 ^ (7 - i % 8)) = ((z / 2 ^ (7 - i % 8) : Nat) : Int) by simp]
    have := u8_and_nat (z / 2 ^ (7 - i % 8)) 1 hlt (by decide)
    rw [nat_mask1] at this
    exact this
  have HE := (show Hid _ from e)
  clear e hlt
  go_enter Try.func14, Try.ntmps14
  go_wp2
  go_ret
  exact ⟨congrArg (fun x => Ending.returned (.int .u8 x)) HE.out, rfl⟩

theorem new_any (ao : Option Addr) (n c : Nat) (m : Int) (w : World) :
    Calls Try.prog 10 #[.slice ao n c, .int .i64 m] w fun e w' => e = .returned (.pointer (some ⟨w.heap.size, 0, none⟩)) ∧ w' = w.alloc (.cells #[.slice ao n c, .int .i64 m] 40) := by
  go_enter Try.func10, Try.ntmps10
  go_wp2
  go_ret
  exact ⟨rfl, rfl⟩

theorem buf_any {base P : Nat} {ao : Option Addr} {cap : Nat} {B : List Nat} {m : Nat} (w : World) (h : St w base P ao cap B m) :
    Calls Try.prog 12 #[.pointer (some ⟨P, 0, none⟩)] w fun e w' => e = .returned (.slice ao B.length cap) ∧ w' = w := by
  have hc := h.cell0
  clear h
  go_enter Try.func12, Try.ntmps12
  go_wp2
  go_ret
  exact ⟨rfl, rfl⟩

theorem cnt_any {base P : Nat} {ao : Option Addr} {cap : Nat} {B : List Nat} {m : Nat} (w : World) (h : St w base P ao cap B m) :
    Calls Try.prog 13 #[.pointer (some ⟨P, 0, none⟩)] w fun e w' => e = .returned (.int .i64 (m : Int)) ∧ w' = w := by
  have hc := h.cell1
  clear h
  go_enter Try.func13, Try.ntmps13
  go_wp2
  go_ret
  exact ⟨rfl, rfl⟩

theorem bit_view {w : World} {a : Option Addr} {n : Nat} {B : List Nat} (hv : View w a n B) (cap i : Nat) (hi : i < 8 * n) (hn : n ≤ 100000000) :
    Calls Try.prog 14 #[.slice a n cap, .int .i64 (i : Int)] w fun e w' => e = .returned (.int .u8 ((bitB B i).toNat : Int)) ∧ w' = w := by
  obtain ⟨b, off, rfl, hc⟩ := hv.cell (by omega)
  have h := bit_any b off n cap i (B.getD (i / 8) 0) w (oct_lt hv.byte _) (by omega) (by omega) (hc (i / 8) (by omega))
  rw [bit_num] at h
  exact h

/-- What b1WriterValid says of a writer that it takes for valid. -/
def Valid (B : List Nat) (bits : Int) : Prop := ∃ m : Nat, bits = m ∧ (m + 7) / 8 = B.length ∧ ∀ i, m ≤ i → i < 8 * B.length → bitB B i = false

def Judged (w : World) (B : List Nat) (bits : Int) (e : Ending) (w' : World) : Prop := ∃ r : Bool, e = .returned (.bool r) ∧ w' = w ∧ (r = true → Valid B bits)

set_option maxHeartbeats 400000 in
theorem valid_any {w : World} {a : Option Addr} {n : Nat} {B : List Nat} (hv : View w a n B) (cap : Nat) (bits : Int) (hn : n ≤ 1048576) (hb : -9223372036854775808 ≤ bits) (hb' : bits ≤ 9223372036854775807) :
    Calls Try.prog 8 #[.slice a n cap, .int .i64 bits] w (Judged w B bits) := by
  by_cases h1 : bits < 0
  · go_enter Try.func8, Try.ntmps8
    go_wp2
    go_ret
    unfold Judged; exact ⟨false, rfl, rfl, by simp⟩
  · by_cases h2 : 8 * (n : Int) < bits
    · go_enter Try.func8, Try.ntmps8
      go_wp2
      go_ret
      unfold Judged; exact ⟨false, rfl, rfl, by simp⟩
    · obtain ⟨m, rfl⟩ : ∃ m : Nat, bits = (m : Int) := ⟨bits.toNat, by omega⟩
      by_cases h3 : (m + 7) / 8 = n
      · have h3' : (((m : Int) + 7) / 8 != (n : Int)) = false := by rw [bne_eq_false_iff_eq]; omega
        have H3 : Hid ((m + 7) / 8 = n) := h3
        have hmn : m ≤ 8 * n := by omega
        have hvl := hv.len
        have Hl : Hid (B.length = n) := hvl
        clear h3 hvl
        go_enter Try.func8, Try.ntmps8
        go_wp2
        go_loopg [5] (8 * n - m) (fun gk i wr => wr = w ∧ ∃ k : Nat, i = .int .i64 (k : Int) ∧ m ≤ k ∧ k ≤ 8 * n ∧ gk = 8 * n - k ∧ ∀ j, m ≤ j → j < k → bitB B j = false)
        case atStart => exact ⟨rfl, m, rfl, Nat.le_refl _, hmn, rfl, fun j h1 h2 => by omega⟩
        case round =>
          obtain ⟨rfl, k, rfl, hk1, hk2, rfl, hall⟩ := hrel
          by_cases hlt : k < 8 * n
          · cases hbit : bitB B k with
            | true =>
              go_wp2_with (go_at_call 14; refine (bit_view hv _ k hlt (by omega)).mono ?_; rintro e w' ⟨rfl, rfl⟩)
              go_ret
              unfold Judged; exact ⟨false, rfl, rfl, by simp⟩
            | false =>
              go_wp2_with (go_at_call 14; refine (bit_view hv _ k hlt (by omega)).mono ?_; rintro e w' ⟨rfl, rfl⟩)
              go_roundg (8 * n - (k + 1))
              case measure => omega
              case rel => exact ⟨rfl, k + 1, by go_num, by omega, by omega, rfl, fun j hj1 hj2 => by by_cases e : j = k; (· rw [e]; exact hbit); (· exact hall j hj1 (by omega))⟩
          · go_wp2
            go_ret
            unfold Judged; exact ⟨true, rfl, rfl, fun _ => ⟨m, rfl, by rw [Hl.out]; exact H3.out, fun i hi1 hi2 => hall i hi1 (by have := Hl.out; omega)⟩⟩
      · have h3' : (((m : Int) + 7) / 8 != (n : Int)) = true := by rw [bne_iff_ne]; omega
        go_enter Try.func8, Try.ntmps8
        go_wp2
        go_ret
        unfold Judged; exact ⟨false, rfl, rfl, by simp⟩

/-- A slice that the call owns reads as what it holds, in every later world that has kept it. -/
theorem view_later {w w' : World} {base S : Nat} {ao : Option Addr} {n cp : Nat} {B : List Nat} (h : w.ownsRow base 5 1 (.slice ao n cp) n (octs B)) (hb : ∀ z ∈ B, z < 256) (hbel : Below S w w') (hS : w.heap.size ≤ S) : View w' ao n B := by
  have hl : B.length = n := by have := h.1; simpa [octs] using this
  refine ⟨hl, hb, fun hn => ?_⟩
  obtain ⟨g, cap, hv, hg, hlt⟩ := h.form (by omega)
  simp only [Value.slice.injEq] at hv
  obtain ⟨rfl, _, rfl⟩ := hv
  refine ⟨g, 0, rfl, fun i hi => ?_⟩
  rw [Nat.zero_add, hbel.cell (p := ⟨g, i, none⟩) (by show g < S; omega), h.cellAt i (by omega)]
  unfold octs
  rw [List.getElem?_map, List.getD_eq_getElem?_getD, List.getElem?_eq_getElem (by omega)]
  rfl

theorem own_nil {w : World} {base : Nat} {ao : Option Addr} {n cp : Nat} {B : List Nat} (h : w.ownsRow base 5 1 (.slice ao n cp) n (octs B)) : ao = none → n = 0 := by
  rintro rfl
  rcases h.2 with ⟨hv, h0⟩ | ⟨g, cap, cur, hv, _⟩
  · exact h0
  · simp at hv

theorem view_of_row {w : World} {a : Option Addr} {len cap : Nat} {zs : List Int}
    (h : (a = none ∧ len = 0 ∧ cap = 0 ∧ zs = []) ∨ ∃ x, a = some x ∧ len ≤ cap ∧ cap ≤ maxLen ∧ zs.length = cap ∧ (∀ i, i < zs.length → w.cell? (x.add i) = some (.int .u8 (zs.getD i 0))) ∧ ∀ n ∈ zs, (Lit.int .u8 n).wf = true) :
    View w a len ((zs.take len).map Int.toNat) ∧ (a = none → len = 0) := by
  rcases h with ⟨rfl, rfl, rfl, rfl⟩ | ⟨x, rfl, hl, hm, hz, hcell, hwz⟩
  · exact ⟨⟨rfl, by simp, fun h => absurd rfl h⟩, fun _ => rfl⟩
  · have hb : ∀ n ∈ zs, 0 ≤ n ∧ n ≤ 255 := fun n hn => bounds_u8 (hwz n hn)
    refine ⟨⟨by simp; omega, ?_, ?_⟩, fun h => by cases h⟩
    · intro z hz'
      obtain ⟨n, hn, rfl⟩ := List.mem_map.1 hz'
      have := hb n (List.mem_of_mem_take hn)
      omega
    · intro hn
      obtain ⟨b, off, spot⟩ := x
      have hspot : spot = none := by simpa [Addr.add] using World.cell?_spot (hcell 0 (by omega))
      subst hspot
      refine ⟨b, off, rfl, fun i hi => ?_⟩
      have hc := hcell i (by omega)
      rw [Addr.add_lit] at hc
      rw [hc]
      have hi' : i < zs.length := by omega
      have e : ((((zs.take len).map Int.toNat).getD i 0 : Nat) : Int) = zs.getD i 0 := by
        rw [List.getD_eq_getElem?_getD, List.getD_eq_getElem?_getD, List.getElem?_map, List.getElem?_take, if_pos hi, List.getElem?_eq_getElem hi']
        have := hb _ (List.getElem_mem hi')
        simp
        omega
      rw [e]

theorem St.new {w : World} {base : Nat} {ao : Option Addr} {cp : Nat} {B : List Nat} (m : Nat) (h : w.ownsRow base 5 1 (.slice ao B.length cp) B.length (octs B)) (hb : base ≤ w.heap.size) :
    St (w.alloc (.cells #[.slice ao B.length cp, .int .i64 (m : Int)] 40)) base w.heap.size ao cp B m :=
  ⟨heap_alloc_new w _, h.alloc _, hb⟩

/-- What the law's walk ends in. -/
def Fine (w : World) (e : Ending) (w' : World) : Prop := e = .returned (.bool true) ∧ Below w.heap.size w w'

end Go.Proofs.Qxb6602842a
