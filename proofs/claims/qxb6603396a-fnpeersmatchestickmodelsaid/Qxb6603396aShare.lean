import Derived.Test.Qxb6603396aFloat
import Derived.Test.Qxb6603396aRows
import Derived.WalkKit
import Derived.WalkSpells
import Derived.WalkLawsBesides
import Derived.Deep.QuietTactic
import Derived.Deep.DeepCutAuto
namespace Go.Proofs.Qxb6603396a
open Go.RowKit Ieee

def fN : Option Nat → Nat | some _ => 0 | none => 1
def nanAt (q : Question) (w : World) : Nat := q.cut (w.tape w.drawn q)
def fV (o : Option Nat) (n : Nat) : Nat := o.getD n
theorem nanAt_bits (a b : Nat) (w : World) : NaN (nanAt (.nanBits .f64 a b) w) := nan_drawn _
theorem nanAt_min (m : Bool) (a b : Nat) (w : World) : NaN (nanAt (.nanMinMax .f64 m a b) w) := nan_drawn _
theorem fV_res (o : Option Nat) {n : Nat} (h : NaN n) : FRes o (fV o n) := by
  cases o with
  | none => exact .inr ⟨rfl, h⟩
  | some r => exact .inl rfl

theorem run_fadd (P : Program) (w : World) (t : TypeId) (a b : Nat) : (binOp .add t (.float .f64 a) (.float .f64 b)).run P w = .ok (.float .f64 (fV (double.add a b) (nanAt (.nanBits .f64 a b) w))) (w.drewN (fN (double.add a b))) := by
  have e : FloatKind.f64.format = double := rfl
  simp only [binOp, Op.floatArith, e]
  cases double.add a b with
  | some r => simp [fV, fN]; rfl
  | none => simp [fV, fN, nanAt, Question.forced]; rfl
theorem run_fsub (P : Program) (w : World) (t : TypeId) (a b : Nat) : (binOp .sub t (.float .f64 a) (.float .f64 b)).run P w = .ok (.float .f64 (fV (double.sub a b) (nanAt (.nanBits .f64 a b) w))) (w.drewN (fN (double.sub a b))) := by
  have e : FloatKind.f64.format = double := rfl
  simp only [binOp, Op.floatArith, e]
  cases double.sub a b with
  | some r => simp [fV, fN]; rfl
  | none => simp [fV, fN, nanAt, Question.forced]; rfl
theorem run_fmul (P : Program) (w : World) (t : TypeId) (a b : Nat) : (binOp .mul t (.float .f64 a) (.float .f64 b)).run P w = .ok (.float .f64 (fV (double.mul a b) (nanAt (.nanBits .f64 a b) w))) (w.drewN (fN (double.mul a b))) := by
  have e : FloatKind.f64.format = double := rfl
  simp only [binOp, Op.floatArith, e]
  cases double.mul a b with
  | some r => simp [fV, fN]; rfl
  | none => simp [fV, fN, nanAt, Question.forced]; rfl
theorem run_fquo (P : Program) (w : World) (t : TypeId) (a b : Nat) : (binOp .quo t (.float .f64 a) (.float .f64 b)).run P w = .ok (.float .f64 (fV (double.div a b) (nanAt (.nanBits .f64 a b) w))) (w.drewN (fN (double.div a b))) := by
  have e : FloatKind.f64.format = double := rfl
  simp only [binOp, Op.floatArith, e]
  cases double.div a b with
  | some r => simp [fV, fN]; rfl
  | none => simp [fV, fN, nanAt, Question.forced]; rfl

def mV (x n : Nat) : Nat := match double.order one x with
  | none => n
  | some .lt => one
  | _ => x
def mN (x : Nat) : Nat := match double.order one x with
  | none => 1
  | _ => 0
theorem mV_res (x : Nat) {n : Nat} (h : NaN n) : MinRes x (mV x n) := by
  unfold mV MinRes
  cases e : double.order one x with
  | none => exact .inl ⟨rfl, h⟩
  | some c => cases c <;> simp
theorem run_fmin (P : Program) (w : World) (ts : Array TypeId) (t : TypeId) (x : Nat) : (Builtin.min_ ts t #[.float .f64 4607182418800017408, .float .f64 x]).run P w = .ok (.float .f64 (mV x (nanAt (.nanMinMax .f64 false 4607182418800017408 x) w))) (w.drewN (mN x)) := by
  have e : FloatKind.f64.format = double := rfl
  have e1 : (FloatKind.f64.decode 4607182418800017408).neg = false := by decide +kernel
  have e2 : one = 4607182418800017408 := rfl
  simp only [Builtin.min_, List.foldlM, Builtin.min2, e, mV, mN, e2]
  cases double.order 4607182418800017408 x with
  | none => simp [nanAt, Question.forced]; rfl
  | some c => cases c <;> simp [e1] <;> rfl

attribute [local go_sem] run_fadd run_fsub run_fmul run_fquo run_fmin


/-- What a function that answers one float leaves. -/
def FPost (w : World) (p : Nat → Prop) (e : Ending) (w' : World) : Prop := ∃ r, e = .returned (.float .f64 r) ∧ p r ∧ Below w.heap.size w w'

theorem below_drewN {B : Nat} {a w : World} (h : Below B a w) (k : Nat) : Below B a (w.drewN k) := ⟨h.os, h.tape, h.output, h.size, h.block⟩

theorem contrib_any (v B : Nat) (kd : ByteArray) (w : World) :
    Calls Try.prog 31 #[.agg #[.string kd, .float .f64 B], .float .f64 v] w (FPost w (FRes (double.sub v B))) := by
  go_enter Try.func31, Try.ntmps31
  go_wp2
  go_ret
  exact ⟨_, rfl, fV_res _ (nanAt_bits _ _ _), below_drewN ((Below.refl _ _).alloc (Nat.le_refl _) _) _⟩

/-- 'VMax * (1 - SaturationZone)'. -/
def Near (V Z r : Nat) : Prop := ∃ d, FRes (double.sub one Z) d ∧ FRes (double.mul V d) r
theorem near_any (V Z : Nat) (w : World) :
    Calls Try.prog 29 #[.agg #[.float .f64 V, .float .f64 Z]] w (FPost w (Near V Z)) := by
  go_enter Try.func29, Try.ntmps29
  go_wp2
  go_ret
  exact ⟨_, rfl, ⟨_, fV_res _ (nanAt_bits _ _ _), fV_res _ (nanAt_bits _ _ _)⟩, below_drewN ((Below.refl _ _).alloc (Nat.le_refl _) _) _⟩

/-- A series' cells. -/
structure Ser where
  inst : ByteArray
  first : Int
  va : Option Addr
  vn : Nat
  vc : Nat
  kf : Int
  kl : Int
  start : Int
  has : Bool
def Ser.cells (s : Ser) : Array Value := #[.string s.inst, .int .i64 s.first, .slice s.va s.vn s.vc, .int .i64 s.kf, .int .i64 s.kl, .int .i64 s.start, .bool s.has]

def Quo (s : Ser) (k tick : Int) (slow x : Nat) : Prop :=
  ∃ d, FRes (double.div (FloatKind.f64.nearest (wrap64 (wrap64 (k * tick) - s.start))) 4652007308841189376) d ∧ FRes (double.div d slow) x
def ShareOf (s : Ser) (k tick : Int) (slow r : Nat) : Prop :=
  if s.has = false ∨ (double.order slow 0 == some .eq) = true then r = one else ∃ x, Quo s k tick slow x ∧ MinRes x r
def PickOf (s : Ser) (k tick : Int) (slow r : Nat) : Prop :=
  if s.has = false ∨ (double.order slow 0 == some .eq) = true then r = one else ∃ x, Quo s k tick slow x ∧ PickRes x r

set_option maxHeartbeats 400000 in
theorem share_any (s : Ser) (im : ByteArray) (slow : Nat) (k tick : Int) (w : World) :
    Calls Try.prog 32 #[.agg #[.string im, .float .f64 slow], .agg s.cells, .int .i64 k, .int .i64 tick] w (FPost w (ShareOf s k tick slow)) := by
  obtain ⟨inst, first, va, vn, vc, kf, kl, start, has⟩ := s
  cases has with
  | false =>
    have HR : Hid (ShareOf ⟨inst, first, va, vn, vc, kf, kl, start, false⟩ k tick slow one) := by show ShareOf _ _ _ _ _; unfold ShareOf; rw [if_pos (.inl rfl)]
    unfold Ser.cells
    go_enter Try.func32, Try.ntmps32
    go_wp2
    go_ret
    exact ⟨one, rfl, HR.out, ((Below.refl _ _).alloc (Nat.le_refl _) _).alloc (by simp) _⟩
  | true =>
    cases h0 : (double.order slow 0 == some .eq) with
    | true =>
      have h0' : (FloatKind.f64.format.order slow 0 == some .eq) = true := h0
      have HR : Hid (ShareOf ⟨inst, first, va, vn, vc, kf, kl, start, true⟩ k tick slow one) := by show ShareOf _ _ _ _ _; unfold ShareOf; rw [if_pos (.inr h0)]
      clear h0
      unfold Ser.cells
      go_enter Try.func32, Try.ntmps32
      go_wp2
      go_ret
      exact ⟨one, rfl, HR.out, ((Below.refl _ _).alloc (Nat.le_refl _) _).alloc (by simp) _⟩
    | false =>
      have h0' : (FloatKind.f64.format.order slow 0 == some .eq) = false := h0
      have H0 : Hid ((double.order slow 0 == some .eq) = false) := h0
      clear h0
      unfold Ser.cells
      go_enter Try.func32, Try.ntmps32
      go_wp2
      go_ret
      refine ⟨_, rfl, ?_, below_drewN (((Below.refl _ _).alloc (Nat.le_refl _) _).alloc (by simp) _) _⟩
      unfold ShareOf
      rw [if_neg (by rintro (h | h); (· cases h); (· rw [H0.out] at h; cases h))]
      exact ⟨_, ⟨_, fV_res _ (nanAt_bits _ _ _), fV_res _ (nanAt_bits _ _ _)⟩, mV_res _ (nanAt_min _ _ _ _)⟩

set_option maxHeartbeats 400000 in
theorem pick_any (s : Ser) (slow : Nat) (k tick : Int) (w : World) :
    Calls Try.prog 28 #[.agg s.cells, .int .i64 k, .int .i64 tick, .float .f64 slow] w (FPost w (PickOf s k tick slow)) := by
  obtain ⟨inst, first, va, vn, vc, kf, kl, start, has⟩ := s
  cases has with
  | false =>
    have HR : Hid (PickOf ⟨inst, first, va, vn, vc, kf, kl, start, false⟩ k tick slow one) := by show PickOf _ _ _ _ _; unfold PickOf; rw [if_pos (.inl rfl)]
    unfold Ser.cells
    go_enter Try.func28, Try.ntmps28
    go_wp2
    go_ret
    exact ⟨one, rfl, HR.out, (Below.refl _ _).alloc (Nat.le_refl _) _⟩
  | true =>
    cases h0 : (double.order slow 0 == some .eq) with
    | true =>
      have h0' : (FloatKind.f64.format.order slow 0 == some .eq) = true := h0
      have HR : Hid (PickOf ⟨inst, first, va, vn, vc, kf, kl, start, true⟩ k tick slow one) := by show PickOf _ _ _ _ _; unfold PickOf; rw [if_pos (.inr h0)]
      clear h0
      unfold Ser.cells
      go_enter Try.func28, Try.ntmps28
      go_wp2
      go_ret
      exact ⟨one, rfl, HR.out, (Below.refl _ _).alloc (Nat.le_refl _) _⟩
    | false =>
      have h0' : (FloatKind.f64.format.order slow 0 == some .eq) = false := h0
      have H0 : Hid ((double.order slow 0 == some .eq) = false) := h0
      clear h0
      unfold Ser.cells
      go_enter Try.func28, Try.ntmps28
      go_upto_region 4 with fail
      go_cut [10] (fun s10 wx => ∃ x, s10 = .float .f64 x ∧ Quo ⟨inst, first, va, vn, vc, kf, kl, start, true⟩ k tick slow x ∧ Below w.heap.size w wx)
      case first =>
        go_wp2_with fail
        go_meet
        exact ⟨_, rfl, ⟨_, fV_res _ (nanAt_bits _ _ _), fV_res _ (nanAt_bits _ _ _)⟩, below_drewN ((Below.refl _ _).alloc (Nat.le_refl _) _) _⟩
      case rest =>
        obtain ⟨x, rfl, hq, hb⟩ := hcut
        have hfin : ∀ r, PickRes x r → PickOf ⟨inst, first, va, vn, vc, kf, kl, start, true⟩ k tick slow r := fun r hr => by
          unfold PickOf
          rw [if_neg (by rintro (h | h); (· cases h); (· rw [H0.out] at h; cases h))]
          exact ⟨x, hq, hr⟩
        have HF : Hid (∀ r, PickRes x r → PickOf ⟨inst, first, va, vn, vc, kf, kl, start, true⟩ k tick slow r) := hfin
        clear hfin hq h0'
        cases e1 : (double.order x x != some .eq) with
        | true =>
          have e1' : (FloatKind.f64.format.order x x != some .eq) = true := e1
          have HP : Hid (PickRes x x) := .inl ⟨.inl (by simpa using e1), rfl⟩
          clear e1
          go_wp2
          go_ret
          exact ⟨x, rfl, HF.out x HP.out, hb⟩
        | false =>
          have e1' : (FloatKind.f64.format.order x x != some .eq) = false := e1
          cases e2 : (double.order x one == some .lt) with
          | true =>
            have e2' : (FloatKind.f64.format.order x 4607182418800017408 == some .lt) = true := e2
            have HP : Hid (PickRes x x) := .inl ⟨.inr (by simpa using e2), rfl⟩
            clear e1 e2
            go_wp2
            go_ret
            exact ⟨x, rfl, HF.out x HP.out, hb⟩
          | false =>
            have e2' : (FloatKind.f64.format.order x 4607182418800017408 == some .lt) = false := e2
            have HP : Hid (PickRes x one) := .inr ⟨by simpa using e1, by simpa using e2, rfl⟩
            clear e1 e2
            go_wp2
            go_ret
            exact ⟨one, rfl, HF.out one HP.out, hb⟩

theorem same_yes {a b : Nat} (h : Eqv a b) (w : World) : Calls Try.prog 24 #[.float .f64 a, .float .f64 b] w fun e w' => e = .returned (.bool true) ∧ w' = w := by
  rcases nan_or a with hn | hn
  · have e1 : (FloatKind.f64.format.order a a != some .eq) = true := by show (double.order a a != some .eq) = true; rw [ord_nan (.inl hn)]; rfl
    have e2 : (FloatKind.f64.format.order b b != some .eq) = true := by show (double.order b b != some .eq) = true; rw [ord_nan (.inl (h.nan.1 hn))]; rfl
    go_enter Try.func24, Try.ntmps24
    go_wp2
    go_ret
    exact ⟨rfl, rfl⟩
  · have e1 : (FloatKind.f64.format.order a a != some .eq) = false := by show (double.order a a != some .eq) = false; rw [ord_self hn]; rfl
    have e2 : (FloatKind.f64.format.order a b != some .eq) = false := by
      show (double.order a b != some .eq) = false
      rw [← (Eqv.refl a).ord h, ord_self hn]; rfl
    cases e3 : (double.order a 0 == some .eq) with
    | false =>
      have e3' : (FloatKind.f64.format.order a 0 == some .eq) = false := e3
      clear e3
      go_enter Try.func24, Try.ntmps24
      go_wp2
      go_ret
      exact ⟨rfl, rfl⟩
    | true =>
      have e3' : (FloatKind.f64.format.order a 0 == some .eq) = true := e3
      obtain ⟨r, hr, hrr⟩ := div_zero (a := a) (by simpa using e3)
      have q1 : ∀ w : World, (binOp .quo 22 (.float .f64 4607182418800017408) (.float .f64 a)).run Try.prog w = .ok (.float .f64 r) w := fun w => by
        rw [run_fquo, show double.div 4607182418800017408 a = some r from hr]; rfl
      have q2 : ∀ w : World, (binOp .quo 22 (.float .f64 4607182418800017408) (.float .f64 b)).run Try.prog w = .ok (.float .f64 r) w := fun w => by
        rw [run_fquo, show double.div 4607182418800017408 b = some r by rw [← (Eqv.refl _).div h]; exact hr]; rfl
      have e4 : (FloatKind.f64.format.order r r == some .eq) = true := by show (double.order r r == some .eq) = true; rw [hrr]; rfl
      clear e3 hr hrr
      go_enter Try.func24, Try.ntmps24
      go_wp2
      go_ret
      exact ⟨rfl, rfl⟩
end Go.Proofs.Qxb6603396a
