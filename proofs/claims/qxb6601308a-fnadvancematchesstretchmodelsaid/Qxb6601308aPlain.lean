/-
  THE PLAIN SIDE of 'advance': events, the steps on classes of floats. No Go in sight.
-/
import Derived.Test.Qxb6601308aFloat
namespace Go.Proofs.Qxb6601308a.Ad
set_option linter.unusedVariables false
open Qxb6601308a.Fl (cl fmul fadd Box)

/-- k cycles on, on classes: K: the classes of the cells of the steps -/
def afterC (K : Nat → Option Nat) (kk : Nat) (m p d sy : Option Nat) : Option Nat × Option Nat × Option Nat :=
  (fadd (fmul m (K (1 + kk * 4))) (fmul sy (K (2413 + kk * 4))),
   fadd (fadd (fmul m (K (1 + kk * 4 + 1))) (fmul p (K (805 + kk * 4 + 1)))) (fmul sy (K (2413 + kk * 4 + 1))),
   fadd (fadd (fadd (fmul m (K (1 + kk * 4 + 2))) (fmul p (K (805 + kk * 4 + 2)))) (fmul d (K (1609 + kk * 4 + 2)))) (fmul sy (K (2413 + kk * 4 + 2))))

/-- an event: its cycle, the bits of its CaSyn, whether the neuron is active -/
structure E where
  cyc : Nat
  ca : Nat
  act : Bool

def hd (l : List E) : E := l.headD ⟨0, 0, false⟩
def second : List E → Nat
  | _ :: b :: _ => b.cyc
  | _ => 200
def stepOn (t : Nat) (l : List E) : List E := if 1 < l.length ∧ second l = t then l.tail else l
def synC (K : Nat → Option Nat) (t : Nat) (a b : E) : Option Nat :=
  fmul (fmul (fmul (fmul (K 0) (cl a.ca)) (K (3217 + (t - a.cyc)))) (cl b.ca)) (K (3417 + (t - b.cyc)))
def nextOf (s r : List E) : Nat := min (second s) (second r)
def moved (K : Nat → Option Nat) (t nx : Nat) (s r : List E) (x : Option Nat × Option Nat × Option Nat) : Option Nat × Option Nat × Option Nat :=
  if (hd s).act && (hd r).act then afterC K (nx - t) x.1 x.2.1 x.2.2 (synC K t (hd s) (hd r)) else x
def adv (K : Nat → Option Nat) : Nat → Nat → List E → List E → Option Nat × Option Nat × Option Nat → Option Nat × Option Nat × Option Nat
  | 0, _, _, _, x => x
  | n + 1, t, s, r, x => if t < 200 then adv K n (nextOf s r) (stepOn (nextOf s r) s) (stepOn (nextOf s r) r) (moved K t (nextOf s r) s r x) else x

/-- cycles that grow, above t, below 200 -/
def Inc : Nat → List E → Prop
  | _, [] => True
  | t, b :: l => t < b.cyc ∧ b.cyc < 200 ∧ Inc b.cyc l
/-- the events from the latest at or before t on -/
def Ok (t : Nat) (l : List E) : Prop := 1 ≤ l.length ∧ (hd l).cyc ≤ t ∧ Inc t l.tail

theorem inc_le {t t' : Nat} : ∀ {l : List E}, (∀ b ∈ l.head?, t' < b.cyc) → Inc t l → Inc t' l
  | [], _, _ => trivial
  | b :: l, h, hi => ⟨h b rfl, hi.2.1, hi.2.2⟩

theorem second_tail {l : List E} (h : 1 < l.length) : second l = (hd l.tail).cyc := by
  match l, h with
  | _ :: b :: _, _ => rfl
theorem second_one {l : List E} (h : ¬ 1 < l.length) : second l = 200 := by
  match l, h with
  | [], _ => rfl
  | [_], _ => rfl
  | _ :: _ :: _, h => exact absurd (by simp) h
theorem ok_second {t : Nat} {l : List E} (h : Ok t l) (ht : t < 200) : t < second l ∧ second l ≤ 200 := by
  match l, h with
  | [_], _ => exact ⟨ht, Nat.le_refl _⟩
  | a :: b :: l, h => exact ⟨h.2.2.1, Nat.le_of_lt h.2.2.2.1⟩
theorem ok_second_lt {t : Nat} {l : List E} (h : Ok t l) (hl : 1 < l.length) : second l < 200 := by
  match l, h, hl with
  | a :: b :: l, h, _ => exact h.2.2.2.1
theorem ok_step {t : Nat} {l : List E} (h : Ok t l) {nx : Nat} (h1 : t < nx) (h2 : nx ≤ second l) : Ok nx (stepOn nx l) := by
  unfold stepOn
  match l, h with
  | [a], h => rw [if_neg (by simp)]; exact ⟨h.1, Nat.le_trans h.2.1 (by omega), trivial⟩
  | a :: b :: l, h =>
    have h2' : nx ≤ b.cyc := h2
    by_cases e : b.cyc = nx
    · rw [if_pos ⟨by simp, e⟩]
      refine ⟨by simp, by show b.cyc ≤ nx; omega, ?_⟩
      show Inc nx l
      rw [← e]; exact h.2.2.2.2
    · rw [if_neg (fun h => e h.2)]
      exact ⟨h.1, Nat.le_trans h.2.1 (by omega), ⟨by omega, h.2.2.2.1, h.2.2.2.2⟩⟩
theorem stepOn_yes {nx : Nat} {l : List E} (h : 1 < l.length) (e : second l = nx) : stepOn nx l = l.tail := by unfold stepOn; rw [if_pos ⟨h, e⟩]
theorem stepOn_no1 {nx : Nat} {l : List E} (h : ¬ 1 < l.length) : stepOn nx l = l := by unfold stepOn; rw [if_neg (fun x => h x.1)]
theorem stepOn_no2 {nx : Nat} {l : List E} (e : ¬ second l = nx) : stepOn nx l = l := by unfold stepOn; rw [if_neg (fun x => e x.2)]

/-- what is still to come, from here on, is RES -/
def ToCome (K : Nat → Option Nat) (RES : Option Nat × Option Nat × Option Nat) (t : Nat) (s r : List E) (x : Option Nat × Option Nat × Option Nat) : Prop :=
  t ≤ 200 ∧ (t < 200 → Ok t s ∧ Ok t r) ∧ ∃ n, 200 ≤ t + n ∧ adv K n t s r x = RES
theorem toCome_done {K : Nat → Option Nat} {RES x : Option Nat × Option Nat × Option Nat} {t : Nat} {s r : List E} (h : ToCome K RES t s r x) (ht : ¬ t < 200) : x = RES := by
  obtain ⟨_, _, n, _, e⟩ := h
  cases n with
  | zero => exact e
  | succ n => unfold adv at e; rw [if_neg ht] at e; exact e
theorem toCome_step {K : Nat → Option Nat} {RES x : Option Nat × Option Nat × Option Nat} {t : Nat} {s r : List E} (h : ToCome K RES t s r x) (ht : t < 200) :
    ToCome K RES (nextOf s r) (stepOn (nextOf s r) s) (stepOn (nextOf s r) r) (moved K t (nextOf s r) s r x) := by
  obtain ⟨_, hok, n, hn, e⟩ := h
  obtain ⟨h1, h2⟩ := hok ht
  have a1 := ok_second h1 ht
  have a2 := ok_second h2 ht
  have b1 : t < nextOf s r := by unfold nextOf; omega
  have b2 : nextOf s r ≤ second s := Nat.min_le_left ..
  have b3 : nextOf s r ≤ second r := Nat.min_le_right ..
  refine ⟨by omega, fun _ => ⟨ok_step h1 b1 b2, ok_step h2 b1 b3⟩, ?_⟩
  cases n with
  | zero => omega
  | succ n =>
    unfold adv at e
    rw [if_pos ht] at e
    exact ⟨n, by omega, e⟩

end Go.Proofs.Qxb6601308a.Ad
