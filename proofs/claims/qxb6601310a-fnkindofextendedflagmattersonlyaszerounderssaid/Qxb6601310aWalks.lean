/-
  The functions on the road of the flag's law, walked: the bound's helper, copyBytes, kindOf, ZZkindOf, the law.
-/
import Derived.Test.Qxb6601310aRows
import Derived.WalkKit
import Derived.ProofKit
import Derived.WalkLawsBesides
import Derived.WalkSpells
import Derived.Below
import Derived.Deep.LoopGhost
import Derived.Deep.OwnRows
import Derived.Deep.MidRow
import Derived.Deep.RegionHeld
import Derived.Deep.DeepCutAuto
import Derived.Lib.SliceRun
import Derived.Laws.MakeOwn
namespace Go.Proofs.Qxb6601310a.Kd
open Go.ChangeShapes Go.WideShapes Go.ChangeAt Go.RowKit
set_option linter.unusedVariables false
/-- a fact kept where no tactic of a walk looks -/
structure Box (p : Prop) : Prop where
  out : p
def Row (w : World) (b o : Nat) (z : Nat → Int) (n : Nat) : Prop := ∀ i, i < n → w.cell? ⟨b, o + i, none⟩ = some (.int .u8 (z i))
theorem info5 : (Try.prog.info? 5).map (fun i => (i.zero, i.size, i.bytes)) = some (some (.int .u8 0), 1, 1) := by kernel_rfl
theorem there_made (w : World) (C : Array Value) (t : TypeId) : (w.alloc (.cells C t)).there w.heap.size 0 C.size := fun j hj => by
  have hc : (w.alloc (.cells C t)).cell? ⟨w.heap.size, 0 + j, none⟩ = C[0 + j]? := World.cell?_alloc_new ..
  refine ⟨by rw [hc, Array.getElem?_eq_getElem (by omega)]; rfl, World.frozen?_alloc_new ..⟩
theorem there_set {w : World} {b' o' n : Nat} (h : w.there b' o' n) (b o : Nat) (v : Value) : (w.setCell ⟨b, o, none⟩ v).there b' o' n := World.there_setCells h b o [v]
theorem cell_set_ne (w : World) (b o o' : Nat) (v : Value) (h : o ≠ o') : (w.setCell ⟨b, o, none⟩ v).cell? ⟨b, o', none⟩ = w.cell? ⟨b, o', none⟩ := World.cell?_setCell_other _ _ _ _ (fun e => h (by injection e))
theorem cell_set_eq {w : World} {b o : Nat} {u : Value} (v : Value) (h : w.cell? ⟨b, o, none⟩ = some u) : (w.setCell ⟨b, o, none⟩ v).cell? ⟨b, o, none⟩ = some v := World.cell?_setCell_same _ _ _ h
theorem below_cell {w w' : World} (h : Below w.heap.size w w') {p : Addr} {v : Value} (hc : w.cell? p = some v) : w'.cell? p = some v := by
  rw [Below.cell h (World.block_lt_of_cell? w _ hc)]; exact hc

theorem SliceRun_nil (w : World) (b o n c : Nat) : (binOp .eql 22 (.slice (some ⟨b, o, none⟩) n c) (.slice none 0 0)).run Try.prog w = .ok (.bool false) w := Go.Lib.run_eql_slice_nil w 22 5 (some ⟨b, o, none⟩) n c 0 0 Try.underlying22
set_option maxHeartbeats 400000 in
theorem zz10 (a : Option Addr) (n c : Nat) (b : Int) (w : World) : Calls Try.prog 10 #[.slice a n c, .int .u8 b] w fun e w' => e = .returned (.bool (decide (n ≤ 1048576))) ∧ w' = w := by
  by_cases h : n ≤ 1048576
  · rw [decide_eq_true h]
    go_enter Try.func10, Try.ntmps10
    go_wp2
    go_ret
    exact ⟨rfl, rfl⟩
  · rw [decide_eq_false h]
    go_enter Try.func10, Try.ntmps10
    go_wp2
    go_ret
    exact ⟨rfl, rfl⟩

set_option maxHeartbeats 400000 in
theorem copy8 (b o n c : Nat) (z : Nat → Int) (w : World) (h : Row w b o z n) (hn : n ≤ 1048576) (hc : n ≤ c) :
    Calls Try.prog 8 #[.slice (some ⟨b, o, none⟩) n c] w fun e w' => e = .returned (.slice (some ⟨w.heap.size, 0, none⟩) n n) ∧ Below w.heap.size w w' ∧ w.heap.size < w'.heap.size ∧ w'.there w.heap.size 0 n ∧ Row w' w.heap.size 0 z n := by
  have hmk := run_make_row' (P := Try.prog) 22 5 (.int .u8 0) 1 Try.underlying22 info5 rfl .i64 .i64 n (by omega) (by omega)
  have hnil := fun wx : World => SliceRun_nil wx b o n c
  generalize hC : madeCells #[Value.int .u8 0] n = C at hmk
  have HC : Box (C.size = n) := ⟨by rw [← hC, size_madeCells]⟩
  clear hC
  go_enter Try.func8, Try.ntmps8
  go_wp2
  go_loopg [4] n (fun gk v4 wr => ∃ (k : Nat), v4 = .int .i64 k ∧ k ≤ n ∧ gk + k = n ∧ Below w.heap.size w wr ∧ w.heap.size < wr.heap.size ∧ wr.there w.heap.size 0 n ∧ ∀ i, i < k → wr.cell? ⟨w.heap.size, i, none⟩ = some (.int .u8 (z i)))
  case atStart =>
    refine ⟨0, rfl, Nat.zero_le _, rfl, Below.alloc (Below.refl _ _) (Nat.le_refl _) _, by simp, ?_, fun i hi => by omega⟩
    have t := there_made w C 5
    rw [HC.out] at t; exact t
  case round =>
    obtain ⟨k, rfl, hk, hgk, hx, hsize, hth, hcells⟩ := hrel
    by_cases hlt : k < n
    · have r0 := below_cell hx (h k hlt)
      obtain ⟨t0, g0⟩ : (wr.cell? ⟨w.heap.size, k, none⟩).isSome = true ∧ wr.frozen? ⟨w.heap.size, k, none⟩ = false := by
        have a0 := hth k hlt
        simp only [Nat.zero_add] at a0
        exact a0
      obtain ⟨x0, t0⟩ := Option.isSome_iff_exists.1 t0
      have HX : Box (Below w.heap.size w wr ∧ w.heap.size < wr.heap.size ∧ wr.there w.heap.size 0 n ∧ ∀ i, i < k → wr.cell? ⟨w.heap.size, i, none⟩ = some (.int .u8 (z i))) := ⟨hx, hsize, hth, hcells⟩
      clear hx hsize hth hcells hmk
      go_wp2
      go_roundg (n - (k + 1))
      case measure => omega
      case rel =>
        obtain ⟨hx, hsize, hth, hcells⟩ := HX.out
        refine ⟨k + 1, by go_num, by omega, by omega, ?_, by simpa using hsize, there_set hth _ _ _, ?_⟩
        · exact Below.setCell hx (p := ⟨w.heap.size, k, none⟩) (Nat.le_refl _) _
        · intro i hi
          by_cases e : i = k
          · subst e; exact cell_set_eq _ t0
          · rw [cell_set_ne _ _ _ _ _ (fun e' => e e'.symm)]; exact hcells i (by omega)
    · have e : k = n := by omega
      subst e
      have HX : Box (Below w.heap.size w wr ∧ w.heap.size < wr.heap.size ∧ wr.there w.heap.size 0 k ∧ ∀ i, i < k → wr.cell? ⟨w.heap.size, i, none⟩ = some (.int .u8 (z i))) := ⟨hx, hsize, hth, hcells⟩
      clear hx hsize hth hcells hmk
      go_wp2
      go_ret
      obtain ⟨hx, hsize, hth, hcells⟩ := HX.out
      refine ⟨rfl, hx, hsize, hth, fun i hi => ?_⟩
      have := hcells i hi
      simpa using this

def kind (t f : Int) : Int :=
  if t = 120 ∨ t = 88 then 3 else if t = 103 ∨ t = 76 ∨ t = 75 then 4 else if t = 49 ∨ t = 50 ∨ t = 51 ∨ t = 52 ∨ t = 53 ∨ t = 54 then 1 else if t = 83 ∧ f ≠ 0 then 2 else 0
set_option maxHeartbeats 400000 in
theorem kind14 (b o n c : Nat) (z : Nat → Int) (w : World) (h : Row w b o z n) (hn : n ≤ 1048576) (h4 : 483 ≤ n) :
    Calls Try.prog 14 #[.slice (some ⟨b, o, none⟩) n c] w fun e w' => e = .returned (.int .i64 (kind (z 156) (z 482))) ∧ w' = w := by
  have h1 := h 156 (by omega)
  have h2 := h 482 (by omega)
  generalize z 156 = t at h1 ⊢
  generalize z 482 = f at h2 ⊢
  clear h
  go_enter Try.func14, Try.ntmps14
  go_wp2
  all_goals go_ret
  all_goals (refine ⟨congrArg (fun q => Ending.returned (.int .i64 q)) ?_, rfl⟩; simp_all [kind])
theorem kind9 (b o n c : Nat) (z : Nat → Int) (w : World) (h : Row w b o z n) (hn : n ≤ 1048576) (h4 : 483 ≤ n) :
    Calls Try.prog 9 #[.slice (some ⟨b, o, none⟩) n c] w fun e w' => e = .returned (.int .i64 (kind (z 156) (z 482))) ∧ w' = w := by
  go_enter Try.func9, Try.ntmps9
  go_wp2_with (go_at_call 14; refine (kind14 b o n c z w h hn h4).mono ?_; rintro e w' ⟨rfl, rfl⟩)
  go_ret
  exact ⟨rfl, rfl⟩
theorem zz10y (a : Option Addr) (n c : Nat) (b : Int) (w : World) (h : n ≤ 1048576) : Calls Try.prog 10 #[.slice a n c, .int .u8 b] w fun e w' => e = .returned (.bool true) ∧ w' = w := by
  have := zz10 a n c b w
  rw [decide_eq_true h] at this
  exact this
theorem zz10n (a : Option Addr) (n c : Nat) (b : Int) (w : World) (h : ¬ n ≤ 1048576) : Calls Try.prog 10 #[.slice a n c, .int .u8 b] w fun e w' => e = .returned (.bool false) ∧ w' = w := by
  have := zz10 a n c b w
  rw [decide_eq_false h] at this
  exact this
def put (z : Nat → Int) (v : Int) (i : Nat) : Int := if i = 482 then v else z i
theorem plain (t f g : Int) (h : t ≠ 83) : (kind t f == kind t g) = true := by
  simp [kind, h]
theorem plainS (f g : Int) : ((kind 83 f == kind 83 g) == ((g != 0) == (f != 0))) = true := by
  by_cases a : f = 0 <;> by_cases b : g = 0 
  · simp [kind, a, b]
  · simp [kind, a, b]
  · simp [kind, a, b]
  · have e1 : (f != 0) = true := by simpa using a
    have e2 : (g != 0) = true := by simpa using b
    simp [kind, a, b, e1, e2]
set_option maxRecDepth 100000 in
set_option maxHeartbeats 1000000 in
theorem walk4 (b o n c : Nat) (z : Nat → Int) (v : Int) (w : World) (h : Row w b o z n) (hc : n ≤ c) (hm : c ≤ maxLen) :
    Calls Try.prog 4 #[.slice (some ⟨b, o, none⟩) n c, .int .u8 v] w fun e w' => e = .returned (.bool true) ∧ Below w.heap.size w w' := by
  unfold maxLen at hm
  by_cases hn : n ≤ 1048576
  · by_cases h4 : 483 ≤ n
    · have c1 := copy8 b o n c z w h hn hc
      go_enter Try.func4, Try.ntmps4
      go_upto_region 9 with (first | (go_at_call 10; refine (zz10y _ n c v w hn).mono ?_; rintro e w' ⟨rfl, rfl⟩) | (go_at_call 8; refine c1.mono ?_; clear c1; rintro e w1 ⟨rfl, b1, s1, t1, r1⟩; have c2 := copy8 _ 0 n n z w1 r1 hn (Nat.le_refl _)) | (go_at_call 8; refine c2.mono ?_; clear c2; rintro e w2 ⟨rfl, b2, s2, t2, r2⟩))
      have HB : Box (Below w'.heap.size w' (w2.setCell ⟨w1.heap.size, 482, none⟩ (.int .u8 v))) := ⟨(b1.trans (Below.mono b2 b1.size)).setCell (p := ⟨w1.heap.size, 482, none⟩) b1.size _⟩
      obtain ⟨q, g0⟩ := t2 482 (by omega)
      obtain ⟨q0, q1⟩ := Option.isSome_iff_exists.1 q
      simp only [Nat.zero_add] at g0 q1
      have ra : Row (w2.setCell ⟨w1.heap.size, 482, none⟩ (.int .u8 v)) w'.heap.size 0 z n := fun i hi => by
        rw [World.cell?_setCell_far _ _ _ _ (by show w1.heap.size ≠ w'.heap.size; omega)]
        exact below_cell b2 (r1 i hi)
      have rb : Row (w2.setCell ⟨w1.heap.size, 482, none⟩ (.int .u8 v)) w1.heap.size 0 (put z v) n := fun i hi => by
        by_cases e : i = 482
        · subst e
          have := cell_set_eq (w := w2) (b := w1.heap.size) (o := 482) (.int .u8 v) q1
          simpa [put] using this
        · have e0 := r2 i hi
          rw [Nat.zero_add] at e0 ⊢
          rw [cell_set_ne _ _ _ _ _ (fun e' => e e'.symm), e0]
          simp [put, e]
      have k1 := kind9 w'.heap.size 0 n n z _ ra hn h4
      have k2 := kind9 w1.heap.size 0 n n (put z v) _ rb hn h4
      have p1 : put z v 156 = z 156 := rfl
      have p2 : put z v 482 = v := rfl
      rw [p1, p2] at k2
      have x1 := ra 156 (by omega)
      have x2 := ra 482 (by omega)
      simp only [Nat.zero_add] at x1 x2
      clear p1 p2 ra rb t1 t2 r1 r2 b1 b2 s1 s2 q h
      by_cases hS : z 156 = 83
      · rw [hS] at k1 k2 x1
        clear hS
        generalize z 482 = f at k1 x2
        have P := plainS f v
        generalize kind 83 f = m1 at k1 P
        generalize kind 83 v = m2 at k2 P
        go_wp2_with (first | (go_at_call 9; refine k1.mono ?_; clear k1; rintro e wx ⟨rfl, rfl⟩) | (go_at_call 9; refine k2.mono ?_; clear k2; rintro e wx ⟨rfl, rfl⟩))
        go_ret
        exact ⟨rfl, HB.out⟩
      · have P := plain (z 156) (z 482) v hS
        have hN : (z 156 != 83) = true := by simpa using hS
        generalize z 156 = t at hN k1 k2 x1 P
        generalize z 482 = f at k1 x2 P
        clear hS
        generalize kind t f = m1 at k1 P
        generalize kind t v = m2 at k2 P
        go_wp2_with (first | (go_at_call 9; refine k1.mono ?_; clear k1; rintro e wx ⟨rfl, rfl⟩) | (go_at_call 9; refine k2.mono ?_; clear k2; rintro e wx ⟨rfl, rfl⟩))
        go_ret
        exact ⟨rfl, HB.out⟩
    · go_enter Try.func4, Try.ntmps4
      go_wp2_with (go_at_call 10; refine (zz10y _ n c v w hn).mono ?_; rintro e w' ⟨rfl, rfl⟩)
      go_ret
      exact ⟨rfl, Below.refl _ _⟩
  · go_enter Try.func4, Try.ntmps4
    go_wp2_with (go_at_call 10; refine (zz10n _ n c v w hn).mono ?_; rintro e w' ⟨rfl, rfl⟩)
    go_ret
    exact ⟨rfl, Below.refl _ _⟩
/-- the law, the slice nil -/
theorem walk4n (v : Int) (w : World) :
    Calls Try.prog 4 #[.slice none 0 0, .int .u8 v] w fun e w' => e = .returned (.bool true) ∧ Below w.heap.size w w' := by
  go_enter Try.func4, Try.ntmps4
  go_wp2_with (go_at_call 10; refine (zz10y _ 0 0 v w (by decide)).mono ?_; rintro e w' ⟨rfl, rfl⟩)
  go_ret
  exact ⟨rfl, Below.refl _ _⟩
/-- the law, an empty slice with an address -/
theorem walk4z (x : Addr) (c : Nat) (v : Int) (w : World) :
    Calls Try.prog 4 #[.slice (some x) 0 c, .int .u8 v] w fun e w' => e = .returned (.bool true) ∧ Below w.heap.size w w' := by
  go_enter Try.func4, Try.ntmps4
  go_wp2_with (go_at_call 10; refine (zz10y _ 0 c v w (by decide)).mono ?_; rintro e w' ⟨rfl, rfl⟩)
  go_ret
  exact ⟨rfl, Below.refl _ _⟩
end Go.Proofs.Qxb6601310a.Kd
