/-
  The three functions of the level, walked: add, ZZLevelAdd, the law.
-/
import Derived.Test.Qxb6601386aRows
import Derived.WalkKit
import Derived.ProofKit
import Derived.WalkLawsBesides
import Derived.WalkSpells
import Derived.BigQuiet
import Derived.Below
namespace Go.Proofs.Qxb6601386a.Lv
open Go.ChangeShapes Go.WideShapes Go.ChangeAt Go.RowKit
set_option linter.unusedVariables false
/-- the five cells of a level in the block b -/
def At (w : World) (b : Nat) (l r v f t : Int) : Prop := w.cell? ⟨b, 0, none⟩ = some (.int .u64 l) ∧ w.cell? ⟨b, 1, none⟩ = some (.int .u64 r) ∧ w.cell? ⟨b, 2, none⟩ = some (.int .u64 v) ∧ w.cell? ⟨b, 3, none⟩ = some (.int .u64 f) ∧ w.cell? ⟨b, 4, none⟩ = some (.int .i64 t)
theorem grown_drewN {a w : World} (k : Nat) (h : Grown a w) : Grown a (w.drewN k) := h
theorem cell_set_ne (w : World) (b o o' : Nat) (v : Value) (h : o ≠ o') : (w.setCell ⟨b, o, none⟩ v).cell? ⟨b, o', none⟩ = w.cell? ⟨b, o', none⟩ := World.cell?_setCell_other _ _ _ _ (fun e => h (by injection e))
theorem cell_set_eq {w : World} {b o : Nat} {u : Value} (v : Value) (h : w.cell? ⟨b, o, none⟩ = some u) : (w.setCell ⟨b, o, none⟩ v).cell? ⟨b, o, none⟩ = some v := World.cell?_setCell_same _ _ _ h
theorem at_new (w : World) (l r v f t : Int) (k : Nat) : At ((w.alloc (.cells #[.int .u64 l, .int .u64 r, .int .u64 v, .int .u64 f, .int .i64 t] 52)).drewN k) w.heap.size l r v f t :=
  ⟨World.cell?_alloc_new .., World.cell?_alloc_new .., World.cell?_alloc_new .., World.cell?_alloc_new .., World.cell?_alloc_new ..⟩
theorem at_set2 {w : World} {b : Nat} {l r v f t : Int} (h : At w b l r v f t) (v' : Int) : At (w.setCell ⟨b, 2, none⟩ (.int .u64 v')) b l r v' f t :=
  ⟨(cell_set_ne _ _ _ _ _ (by decide)).trans h.1, (cell_set_ne _ _ _ _ _ (by decide)).trans h.2.1, cell_set_eq _ h.2.2.1, (cell_set_ne _ _ _ _ _ (by decide)).trans h.2.2.2.1, (cell_set_ne _ _ _ _ _ (by decide)).trans h.2.2.2.2⟩
theorem at_set3 {w : World} {b : Nat} {l r v f t : Int} (h : At w b l r v f t) (f' : Int) : At (w.setCell ⟨b, 3, none⟩ (.int .u64 f')) b l r v f' t :=
  ⟨(cell_set_ne _ _ _ _ _ (by decide)).trans h.1, (cell_set_ne _ _ _ _ _ (by decide)).trans h.2.1, (cell_set_ne _ _ _ _ _ (by decide)).trans h.2.2.1, cell_set_eq _ h.2.2.2.1, (cell_set_ne _ _ _ _ _ (by decide)).trans h.2.2.2.2⟩
theorem results_tmp5 {fn : Func} {a b c d e : Tmp} (h : fn.results = #[.tmp a, .tmp b, .tmp c, .tmp d, .tmp e]) (tmps : Array Value) (P : Program) (w : World) :
    (results fn tmps).run P w = .ok (.tuple #[tmps.getD a undef, tmps.getD b undef, tmps.getD c undef, tmps.getD d undef, tmps.getD e undef]) w := by
  simp [results, h]
theorem u64_b {n : Int} (h : (Lit.int .u64 n).wf = true) : 0 ≤ n ∧ n < 18446744073709551616 := by
  have h' : (decide (IntKind.u64.min ≤ n) && decide (n ≤ IntKind.u64.max)) = true := h
  rw [Bool.and_eq_true, decide_eq_true_eq, decide_eq_true_eq] at h'
  have e1 : IntKind.u64.min = 0 := rfl
  have e2 : IntKind.u64.max = 18446744073709551615 := rfl
  omega
/-- what add leaves: the value, the fraction -/
def v2 (l v n : Int) : Int := if l - v ≤ n then l else v + n
def f2 (l v f n : Int) : Int := if l - v ≤ n then 0 else f
set_option maxHeartbeats 400000 in
theorem add25 (l r v f t n : Int) (w : World) (hv0 : 0 ≤ v) (hv : v ≤ l) (hl : l < 18446744073709551616) (hn : 0 ≤ n) :
    Calls Try.prog 25 #[.pointer (some ⟨w.heap.size, 0, none⟩), .int .u64 n] (w.alloc (.cells #[.int .u64 l, .int .u64 r, .int .u64 v, .int .u64 f, .int .i64 t] 52)) fun e w' => e = .returned (.tuple #[]) ∧
      Grown w w' ∧ At w' w.heap.size l r (v2 l v n) (f2 l v f n) t := by
  have hw : IntKind.u64.wrap (l - v) = l - v := IntWalk.u64_in _ ⟨by omega, by omega⟩
  by_cases h : l - v ≤ n
  · have hd : decide (l - v ≤ n) = true := by simpa using h
    have hv2 : v2 l v n = l := if_pos h
    have hf2 : f2 l v f n = 0 := if_pos h
    rw [hv2, hf2]
    clear h hv2 hf2
    go_enter Try.func25, Try.ntmps25
    go_wp2
    go_quiet (fail)
    go_wp2
    (try simp only [Exit.inBlock, Exit.then]); refine bodyPost_ret (results_none rfl _ _ _) rfl ?_
    exact ⟨rfl, Grown.setCell (Grown.setCell (grown_drewN nq (Grown.alloc (Grown.refl w) _ _)) (Nat.le_refl _) _) (Nat.le_refl _) _, at_set3 (at_set2 (at_new w l r v f t nq) _) _⟩
  · have hd : decide (l - v ≤ n) = false := by simpa using h
    have hw2 : IntKind.u64.wrap (v + n) = v + n := IntWalk.u64_in _ ⟨by omega, by omega⟩
    have hv2 : v2 l v n = v + n := if_neg h
    have hf2 : f2 l v f n = f := if_neg h
    rw [hv2, hf2]
    clear h hv2 hf2
    go_enter Try.func25, Try.ntmps25
    go_wp2
    go_quiet (fail)
    go_wp2
    go_end0
    exact ⟨rfl, Grown.setCell (grown_drewN nq (Grown.alloc (Grown.refl w) _ _)) (Nat.le_refl _) _, at_set2 (at_new w l r v f t nq) _⟩
set_option maxHeartbeats 400000 in
theorem zz21 (l r v f t n : Int) (w : World) (hv0 : 0 ≤ v) (hv : v ≤ l) (hl : l < 18446744073709551616) (hn : 0 ≤ n) :
    Calls Try.prog 21 #[.int .u64 l, .int .u64 r, .int .u64 v, .int .u64 f, .int .i64 t, .int .u64 n] w fun e w' =>
      e = .returned (.tuple #[.int .u64 l, .int .u64 r, .int .u64 (v2 l v n), .int .u64 (f2 l v f n), .int .i64 t]) ∧ Grown w w' := by
  go_enter Try.func21, Try.ntmps21
  go_wp2_with (go_at_call 25; refine (add25 l r v f t n w hv0 hv hl hn).mono ?_; rintro e w1 ⟨rfl, hg, c0, c1, c2, c3, c4⟩)
  go_quiet (fail)
  go_wp2
  (try simp only [Exit.inBlock, Exit.then]); refine bodyPost_ret (results_tmp5 rfl _ _ _) rfl ?_
  exact ⟨rfl, grown_drewN nq hg⟩
set_option maxHeartbeats 400000 in
theorem walk7 (a0 : Int) (a1 : Int) (a2 : Int) (a3 : Int) (a4 : Int) (a5 : Int) (w0 : (Lit.int .u64 a0).wf = true) (w2 : (Lit.int .u64 a2).wf = true) (w3 : (Lit.int .u64 a3).wf = true) (w5 : (Lit.int .u64 a5).wf = true) (w : World) :
    Calls Try.prog 7 #[.int .u64 a0, .int .u64 a1, .int .u64 a2, .int .u64 a3, .int .i64 a4, .int .u64 a5] w fun e w' => e = .returned (.bool true) ∧ Grown w w' := by
  have b0 : 0 ≤ a0 ∧ a0 < 18446744073709551616 := u64_b w0
  have b2 : 0 ≤ a2 := (u64_b w2).1
  have b3 : 0 ≤ a3 := (u64_b w3).1
  have b5 : 0 ≤ a5 ∧ a5 < 18446744073709551616 := u64_b w5
  clear w0 w2 w3 w5
  by_cases h1 : a2 ≤ a0
  · have d1 : decide (a0 < a2) = false := by simpa using h1
    by_cases h2 : a3 < 1000000000
    · have d2 : decide (1000000000 ≤ a3) = false := by simpa using h2
      by_cases h3 : a2 = a0 ∧ a3 ≠ 0
      · have d3 : (a2 == a0) = true := by simpa using h3.1
        have d4 : (a3 != 0) = true := by simpa using h3.2
        clear h3
        go_enter Try.func7, Try.ntmps7
        go_wp2
        go_ret
        exact ⟨rfl, Grown.refl _⟩
      · have hg := zz21 a0 a1 a2 a3 a4 a5 w b2 h1 b0.2 b5.1
        obtain ⟨x, hx⟩ : ∃ x, x = v2 a0 a2 a5 := ⟨_, rfl⟩
        obtain ⟨y, hy⟩ : ∃ y, y = f2 a0 a2 a3 a5 := ⟨_, rfl⟩
        rw [← hx, ← hy] at hg
        have p : x ≤ a0 ∧ y < 1000000000 ∧ ¬ (x = a0 ∧ y ≠ 0) ∧ a2 ≤ x ∧ x - a2 ≤ a5 := by
          rw [hx, hy]; unfold v2 f2
          by_cases q : a0 - a2 ≤ a5
          · rw [if_pos q, if_pos q]; omega
          · rw [if_neg q, if_neg q]; omega
        clear hx hy
        obtain ⟨p1, p2, p3, p4, p5⟩ := p
        have e1 : decide (a0 < x) = false := by simpa using p1
        have e2 : decide (1000000000 ≤ y) = false := by simpa using p2
        have e5 : decide (x < a2) = false := by simpa using p4
        have e6 : IntKind.u64.wrap (x - a2) = x - a2 := IntWalk.u64_in _ ⟨by omega, by omega⟩
        have e7 : decide (x - a2 ≤ a5) = true := by simpa using p5
        cases d3 : a2 == a0 with
        | false =>
          cases d5 : x == a0 with
          | false =>
            clear h3 p3 h1 h2 p1 p2 p4 p5
            go_enter Try.func7, Try.ntmps7
            go_wp2_with (go_at_call 21; refine hg.mono ?_; rintro e w1 ⟨rfl, hgr⟩)
            go_ret
            exact ⟨rfl, hgr⟩
          | true =>
            have d6 : (y != 0) = false := by
              have : x = a0 := by simpa using d5
              have : y = 0 := Classical.byContradiction fun c => p3 ⟨this, c⟩
              simp [this]
            clear h3 p3 h1 h2 p1 p2 p4 p5
            go_enter Try.func7, Try.ntmps7
            go_wp2_with (go_at_call 21; refine hg.mono ?_; rintro e w1 ⟨rfl, hgr⟩)
            go_ret
            exact ⟨rfl, hgr⟩
        | true =>
          have d4 : (a3 != 0) = false := by
            have : a2 = a0 := by simpa using d3
            have : a3 = 0 := Classical.byContradiction fun c => h3 ⟨this, c⟩
            simp [this]
          cases d5 : x == a0 with
          | false =>
            clear h3 p3 h1 h2 p1 p2 p4 p5
            go_enter Try.func7, Try.ntmps7
            go_wp2_with (go_at_call 21; refine hg.mono ?_; rintro e w1 ⟨rfl, hgr⟩)
            go_ret
            exact ⟨rfl, hgr⟩
          | true =>
            have d6 : (y != 0) = false := by
              have : x = a0 := by simpa using d5
              have : y = 0 := Classical.byContradiction fun c => p3 ⟨this, c⟩
              simp [this]
            clear h3 p3 h1 h2 p1 p2 p4 p5
            go_enter Try.func7, Try.ntmps7
            go_wp2_with (go_at_call 21; refine hg.mono ?_; rintro e w1 ⟨rfl, hgr⟩)
            go_ret
            exact ⟨rfl, hgr⟩
    · have d2 : decide (1000000000 ≤ a3) = true := by simpa using h2
      go_enter Try.func7, Try.ntmps7
      go_wp2
      go_ret
      exact ⟨rfl, Grown.refl _⟩
  · have d1 : decide (a0 < a2) = true := by simpa using h1
    go_enter Try.func7, Try.ntmps7
    go_wp2
    go_ret
    exact ⟨rfl, Grown.refl _⟩
end Go.Proofs.Qxb6601386a.Lv
