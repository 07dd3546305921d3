/-
  FLOATS UP TO WHICH NaN: 'cl x': the bits of a float64, all NaNs thrown together ('none'). '*', '+' as functions of the classes; what the model's operations give.
-/
import Derived.Laws.FloatArith
import Derived.Deep.Draws
import Derived.Laws.NewFold
import Derived.Laws.Entries
namespace Go.Proofs.Qxb6601308a.Fl

/-- A fact shut away: no tactic looks behind it. -/
structure Box (p : Prop) : Prop where
  out : p

def nanB (x : Nat) : Bool := (Ieee.double.read x).isNaN
/-- a float's bits, all NaNs as one -/
def cl (x : Nat) : Option Nat := if nanB x then none else some x
def fmul (a b : Option Nat) : Option Nat := a.bind fun x => b.bind fun y => Ieee.double.mul x y
def fadd (a b : Option Nat) : Option Nat := a.bind fun x => b.bind fun y => Ieee.double.add x y

theorem nan_is {x : Nat} (h : nanB x = true) : ∃ s t, Ieee.double.read x = .nan s t := by
  unfold nanB at h
  cases e : Ieee.double.read x with
  | nan s t => exact ⟨s, t, rfl⟩
  | number s m p => rw [e] at h; simp [Ieee.Datum.isNaN] at h
  | infinity s => rw [e] at h; simp [Ieee.Datum.isNaN] at h

theorem word_not_nan (neg : Bool) (r : Nat) (h : r ≤ Ieee.double.infRung) : nanB (Ieee.double.word neg r) = false := by
  have hw : Ieee.double.infRung < Ieee.double.signWeight := Ieee.double.infRung_lt
  have e : Ieee.double.word neg r % Ieee.double.signWeight = r := by
    unfold Ieee.Format.word
    split
    · rw [Nat.add_mod_left, Nat.mod_eq_of_lt (by omega)]
    · rw [Nat.mod_eq_of_lt (by omega)]
  unfold nanB Ieee.Format.read
  simp only [e]
  split
  · rfl
  · split
    · rfl
    · split
      · rfl
      · omega

theorem write_not_nan (d : Ieee.Datum) (h : d.isNaN = false) : nanB (Ieee.double.write d) = false := by
  cases d with
  | nan s t => simp [Ieee.Datum.isNaN] at h
  | infinity s => exact word_not_nan s _ (Nat.le_refl _)
  | number s m p =>
    show nanB (Ieee.double.nearest s m p) = false
    unfold Ieee.Format.nearest
    dsimp only
    split
    · exact word_not_nan s 0 (Nat.zero_le _)
    · exact word_not_nan s _ (Nat.min_le_right ..)

theorem product_not_nan {a b d : Ieee.Datum} (h : a.product b = some d) : d.isNaN = false := by
  cases a <;> cases b <;> simp [Ieee.Datum.product] at h
  all_goals first
    | (subst h; rfl)
    | (obtain ⟨_, rfl⟩ := h; rfl)
theorem sum_not_nan {a b d : Ieee.Datum} (h : a.sum b = some d) : d.isNaN = false := by
  cases a <;> cases b <;> simp [Ieee.Datum.sum] at h
  all_goals first
    | (subst h; rfl)
    | (obtain ⟨_, rfl⟩ := h; rfl)

theorem mul_not_nan {x y r : Nat} (h : Ieee.double.mul x y = some r) : nanB r = false := by
  unfold Ieee.Format.mul at h
  cases e : (Ieee.double.read x).product (Ieee.double.read y) with
  | none => rw [e] at h; cases h
  | some d => rw [e] at h; cases h; exact write_not_nan d (product_not_nan e)
theorem add_not_nan {x y r : Nat} (h : Ieee.double.add x y = some r) : nanB r = false := by
  unfold Ieee.Format.add at h
  cases e : (Ieee.double.read x).sum (Ieee.double.read y) with
  | none => rw [e] at h; cases h
  | some d => rw [e] at h; cases h; exact write_not_nan d (sum_not_nan e)

theorem mul_nan_left {x y : Nat} (h : nanB x = true) : Ieee.double.mul x y = none := by
  obtain ⟨s, t, e⟩ := nan_is h
  unfold Ieee.Format.mul; rw [e]; rfl
theorem mul_nan_right {x y : Nat} (h : nanB y = true) : Ieee.double.mul x y = none := by
  obtain ⟨s, t, e⟩ := nan_is h
  unfold Ieee.Format.mul; rw [e]; cases Ieee.double.read x <;> rfl
theorem add_nan_left {x y : Nat} (h : nanB x = true) : Ieee.double.add x y = none := by
  obtain ⟨s, t, e⟩ := nan_is h
  unfold Ieee.Format.add; rw [e]; rfl
theorem add_nan_right {x y : Nat} (h : nanB y = true) : Ieee.double.add x y = none := by
  obtain ⟨s, t, e⟩ := nan_is h
  unfold Ieee.Format.add; rw [e]; cases Ieee.double.read x <;> rfl

theorem fmul_cl (x y : Nat) : fmul (cl x) (cl y) = Ieee.double.mul x y := by
  unfold fmul cl
  cases hx : nanB x
  · cases hy : nanB y
    · simp
    · simp [mul_nan_right hy]
  · simp [mul_nan_left hx]
theorem fadd_cl (x y : Nat) : fadd (cl x) (cl y) = Ieee.double.add x y := by
  unfold fadd cl
  cases hx : nanB x
  · cases hy : nanB y
    · simp
    · simp [add_nan_right hy]
  · simp [add_nan_left hx]

/-- the bits that the tape gives for a NaN are a NaN's -/
theorem cut_nan (x y t : Nat) : nanB ((Question.nanBits .f64 x y).cut t) = true := by
  have e : (Question.nanBits .f64 x y).cut t = (t % 2) * 2 ^ 63 + 0x7ff0000000000000 + 1 + (t / 2) % (2 ^ 52 - 1) := rfl
  rw [e]
  have h1 : (t / 2) % (2 ^ 52 - 1) < 2 ^ 52 - 1 := Nat.mod_lt _ (by decide)
  generalize (t / 2) % (2 ^ 52 - 1) = q at h1
  have h2 : t % 2 < 2 := Nat.mod_lt _ (by decide)
  generalize t % 2 = p at h2
  have sw : Ieee.double.signWeight = 2 ^ 63 := rfl
  have ir : Ieee.double.infRung = 0x7ff0000000000000 := by decide
  have bn : Ieee.double.binade = 2 ^ 52 := rfl
  have er : (p * 2 ^ 63 + 0x7ff0000000000000 + 1 + q) % Ieee.double.signWeight = 0x7ff0000000000000 + 1 + q := by
    rw [sw]; omega
  unfold nanB Ieee.Format.read
  simp only [er, ir, bn]
  rw [if_neg (by omega), if_neg (by omega), if_neg (by omega)]
  rfl

theorem cl_nan {x : Nat} (h : nanB x = true) : cl x = none := by unfold cl; rw [h]; rfl
theorem cl_num {x : Nat} (h : nanB x = false) : cl x = some x := by unfold cl; rw [h]; rfl

/-- a number is equal to itself; a NaN to nothing -/
theorem order_self {x : Nat} (h : nanB x = false) : Ieee.double.order x x = some .eq := by
  unfold Ieee.Format.order
  unfold nanB at h
  cases e : Ieee.double.read x with
  | nan s t => rw [e] at h; simp [Ieee.Datum.isNaN] at h
  | infinity s => simp [Ieee.Datum.order]
  | number s m p => simp [Ieee.Datum.order]
theorem order_nan {x y : Nat} (h : nanB x = true) : Ieee.double.order x y = none := by
  obtain ⟨s, t, e⟩ := nan_is h
  unfold Ieee.Format.order; rw [e]; rfl

section
variable {P : Program} (w : World)
theorem run_fmul (t : TypeId) (x y : Nat) : ∃ r n, (binOp .mul t (.float .f64 x) (.float .f64 y)).run P w = .ok (.float .f64 r) (w.drewN n) ∧ cl r = fmul (cl x) (cl y) := by
  cases h : Ieee.double.mul x y with
  | some r => exact ⟨r, 0, run_float_arith w .mul t .f64 x y r h, by rw [fmul_cl, h, cl_num (mul_not_nan h)]⟩
  | none =>
    have h' : FloatKind.f64.format.mul x y = none := h
    refine ⟨(Question.nanBits .f64 x y).cut (w.tape w.drawn (.nanBits .f64 x y)), 1, ?_, ?_⟩
    · simp only [binOp, Op.floatArith, h']
      simp [Question.forced]
      rfl
    · rw [fmul_cl, h]; exact cl_nan (cut_nan _ _ _)
theorem run_fadd (t : TypeId) (x y : Nat) : ∃ r n, (binOp .add t (.float .f64 x) (.float .f64 y)).run P w = .ok (.float .f64 r) (w.drewN n) ∧ cl r = fadd (cl x) (cl y) := by
  cases h : Ieee.double.add x y with
  | some r => exact ⟨r, 0, run_float_arith w .add t .f64 x y r h, by rw [fadd_cl, h, cl_num (add_not_nan h)]⟩
  | none =>
    have h' : FloatKind.f64.format.add x y = none := h
    refine ⟨(Question.nanBits .f64 x y).cut (w.tape w.drawn (.nanBits .f64 x y)), 1, ?_, ?_⟩
    · simp only [binOp, Op.floatArith, h']
      simp [Question.forced]
      rfl
    · rw [fadd_cl, h]; exact cl_nan (cut_nan _ _ _)
end
theorem run_store_float {P : Program} (w : World) (a : Addr) (m : Mode) (k : FloatKind) (b : Nat) : (store a (.float k b) m).run P w = stored P w a (.float k b) m := run_store P w a _ m rfl
end Go.Proofs.Qxb6601308a.Fl
