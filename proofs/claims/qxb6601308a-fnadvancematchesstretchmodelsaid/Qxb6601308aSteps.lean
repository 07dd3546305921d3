import Derived.Test.Qxb6601308aEvents
import Derived.Deep.WholeRow

namespace Go.Proofs.Qxb6601308a.Ad
set_option linter.unusedVariables false
open Go.ChangeShapes Go.WideShapes Go.ChangeAt Go.RowKit Rg
open Qxb6601308a.Fl (cl fmul fadd Box)
attribute [local go_sem] Fl.run_store_float

/-- a part laid over a row -/
def blit (off : Nat) (src dst : Array Value) : Array Value := src.zipIdx.foldl (fun cs (c, j) => cs.setIfInBounds (off + j) c) dst
theorem blit_fold (off : Nat) : ∀ (l : List Value) (k : Nat) (dst : Array Value), off + k + l.length ≤ dst.size →
    ((l.zipIdx k).foldl (fun cs (p : Value × Nat) => cs.setIfInBounds (off + p.2) p.1) dst).size = dst.size ∧
    ∀ i, ((l.zipIdx k).foldl (fun cs (p : Value × Nat) => cs.setIfInBounds (off + p.2) p.1) dst)[i]? = if off + k ≤ i ∧ i < off + k + l.length then l[i - (off + k)]? else dst[i]?
  | [], k, dst, h => ⟨rfl, fun i => by
      have hn : ¬ (off + k ≤ i ∧ i < off + k + ([] : List Value).length) := by simp
      rw [if_neg hn]; rfl⟩
  | v :: l, k, dst, h => by
    simp only [List.zipIdx_cons, List.foldl_cons]
    obtain ⟨h1, h2⟩ := blit_fold off l (k + 1) (dst.setIfInBounds (off + k) v) (by simp at h ⊢; omega)
    refine ⟨by rw [h1]; simp, fun i => ?_⟩
    rw [h2 i]
    simp only [List.length_cons] at h ⊢
    by_cases hi : off + (k + 1) ≤ i ∧ i < off + (k + 1) + l.length
    · rw [if_pos hi, if_pos (by omega), show i - (off + k) = (i - (off + (k + 1))) + 1 from by omega]
      simp
    · rw [if_neg hi]
      by_cases e : i = off + k
      · subst e
        rw [if_pos (by omega), Array.getElem?_setIfInBounds_self_of_lt (by omega)]
        simp
      · rw [if_neg (by omega), Array.getElem?_setIfInBounds_ne (fun h => e h.symm)]
theorem blit_spec (off : Nat) (src dst : Array Value) (h : off + src.size ≤ dst.size) : (blit off src dst).size = dst.size ∧ ∀ i, (blit off src dst)[i]? = if off ≤ i ∧ i < off + src.size then src[i - off]? else dst[i]? := by
  have := blit_fold off src.toList 0 dst (by simpa using h)
  have e : blit off src dst = (src.toList.zipIdx 0).foldl (fun cs (p : Value × Nat) => cs.setIfInBounds (off + p.2) p.1) dst := by
    unfold blit
    rw [← Array.foldl_toList, Array.toList_zipIdx]
  rw [e]
  simpa using this

theorem fill_step {place : Nat → Option (Nat × Nat)} {cells : Array Value} {i off size : Nat} {v : Value} {rest : List (Nat × Value)} (hp : place i = some (off, size)) (hs : v.cells.size = size) (hb : off + size ≤ cells.size) :
    Instr.fill place cells ((i, v) :: rest) = Instr.fill place (blit off v.cells cells) rest := by
  rw [Instr.fill, hp]
  have h1 : (decide (v.cells.size ≠ size) || decide (off + v.cells.size > cells.size)) = false := by
    rw [hs]; simp; omega
  simp only [h1]
  rfl

def Z63 : Array Value := Array.replicate 3617 (.float .f64 0)
theorem zero63 : (Try.prog.info? 63).map (fun i => (i.zero, i.size)) = some (some (.agg Z63), 3617) := by kernel_rfl
def K63 (gb : Nat) (A1 A2 A3 A4 D1 D2 : Array Value) : Array Value := blit 3417 D2 (blit 3217 D1 (blit 2413 A4 (blit 1609 A3 (blit 805 A2 (blit 1 A1 (blit 0 #[.float .f64 gb] Z63))))))
theorem run_build63 (gb : Nat) (A1 A2 A3 A4 D1 D2 : Array Value) (w : World) (h1 : A1.size = 804) (h2 : A2.size = 804) (h3 : A3.size = 804) (h4 : A4.size = 804) (h5 : D1.size = 200) (h6 : D2.size = 200) :
    (Instr.build 63 #[(0, .float .f64 gb), (1, .agg A1), (2, .agg A2), (3, .agg A3), (4, .agg A4), (5, .agg D1), (6, .agg D2)]).run Try.prog w = .ok (.agg (K63 gb A1 A2 A3 A4 D1 D2)) w := by
  have hz := (zero_of_info zero63).1
  have hZ : Z63.size = 3617 := by simp [Z63]
  obtain ⟨s0, _⟩ := blit_spec 0 #[.float .f64 gb] Z63 (by rw [hZ]; simp)
  rw [hZ] at s0
  obtain ⟨s1, _⟩ := blit_spec 1 A1 _ (by rw [s0, h1]; decide)
  rw [s0] at s1
  obtain ⟨s2, _⟩ := blit_spec 805 A2 _ (by rw [s1, h2]; decide)
  rw [s1] at s2
  obtain ⟨s3, _⟩ := blit_spec 1609 A3 _ (by rw [s2, h3]; decide)
  rw [s2] at s3
  obtain ⟨s4, _⟩ := blit_spec 2413 A4 _ (by rw [s3, h4]; decide)
  rw [s3] at s4
  obtain ⟨s5, _⟩ := blit_spec 3217 D1 _ (by rw [s4, h5]; decide)
  rw [s4] at s5
  unfold Instr.build
  simp only [Sem.run_bind, hz, Result.andThen_ok, Try.runUnderlying63, Value.cells]
  simp [Array.mapM_eq_foldlM, Try.sizeOf22, Try.sizeOf52, Try.sizeOf39, Sem.run_bind]
  rw [fill_step (off := 0) (size := 1) (v := .float .f64 gb) rfl rfl (by rw [hZ]; decide), fill_step (off := 1) (size := 804) (v := .agg A1) rfl h1 (by show 1 + 804 ≤ (blit 0 #[.float .f64 gb] Z63).size; rw [s0]; decide),
    fill_step (off := 805) (size := 804) (v := .agg A2) rfl h2 (by show 805 + 804 ≤ (blit 1 A1 (blit 0 #[.float .f64 gb] Z63)).size; rw [s1]; decide),
    fill_step (off := 1609) (size := 804) (v := .agg A3) rfl h3 (by show 1609 + 804 ≤ (blit 805 A2 (blit 1 A1 (blit 0 #[.float .f64 gb] Z63))).size; rw [s2]; decide),
    fill_step (off := 2413) (size := 804) (v := .agg A4) rfl h4 (by show 2413 + 804 ≤ (blit 1609 A3 (blit 805 A2 (blit 1 A1 (blit 0 #[.float .f64 gb] Z63)))).size; rw [s3]; decide),
    fill_step (off := 3217) (size := 200) (v := .agg D1) rfl h5 (by show 3217 + 200 ≤ (blit 2413 A4 (blit 1609 A3 (blit 805 A2 (blit 1 A1 (blit 0 #[.float .f64 gb] Z63))))).size; rw [s4]; decide),
    fill_step (off := 3417) (size := 200) (v := .agg D2) rfl h6 (by show 3417 + 200 ≤ (blit 3217 D1 (blit 2413 A4 (blit 1609 A3 (blit 805 A2 (blit 1 A1 (blit 0 #[.float .f64 gb] Z63)))))).size; rw [s5]; decide)]
  rfl

theorem K63_spec (gb : Nat) (A1 A2 A3 A4 D1 D2 : Array Value) (h1 : A1.size = 804) (h2 : A2.size = 804) (h3 : A3.size = 804) (h4 : A4.size = 804) (h5 : D1.size = 200) (h6 : D2.size = 200) :
    (K63 gb A1 A2 A3 A4 D1 D2).size = 3617 ∧ (K63 gb A1 A2 A3 A4 D1 D2)[0]? = some (.float .f64 gb) ∧ (∀ i, i < 804 → (K63 gb A1 A2 A3 A4 D1 D2)[1 + i]? = A1[i]?) ∧ (∀ i, i < 804 → (K63 gb A1 A2 A3 A4 D1 D2)[805 + i]? = A2[i]?) ∧ (∀ i, i < 804 → (K63 gb A1 A2 A3 A4 D1 D2)[1609 + i]? = A3[i]?) ∧
      (∀ i, i < 804 → (K63 gb A1 A2 A3 A4 D1 D2)[2413 + i]? = A4[i]?) ∧ (∀ i, i < 200 → (K63 gb A1 A2 A3 A4 D1 D2)[3217 + i]? = D1[i]?) ∧ (∀ i, i < 200 → (K63 gb A1 A2 A3 A4 D1 D2)[3417 + i]? = D2[i]?) := by
  have hZ : Z63.size = 3617 := by simp [Z63]
  obtain ⟨s0, g0⟩ := blit_spec 0 #[.float .f64 gb] Z63 (by rw [hZ]; simp)
  rw [hZ] at s0
  obtain ⟨s1, g1⟩ := blit_spec 1 A1 _ (by rw [s0, h1]; decide)
  rw [s0] at s1
  obtain ⟨s2, g2⟩ := blit_spec 805 A2 _ (by rw [s1, h2]; decide)
  rw [s1] at s2
  obtain ⟨s3, g3⟩ := blit_spec 1609 A3 _ (by rw [s2, h3]; decide)
  rw [s2] at s3
  obtain ⟨s4, g4⟩ := blit_spec 2413 A4 _ (by rw [s3, h4]; decide)
  rw [s3] at s4
  obtain ⟨s5, g5⟩ := blit_spec 3217 D1 _ (by rw [s4, h5]; decide)
  rw [s4] at s5
  obtain ⟨s6, g6⟩ := blit_spec 3417 D2 _ (by rw [s5, h6]; decide)
  rw [s5] at s6
  unfold K63
  have z : (#[Value.float .f64 gb] : Array Value).size = 1 := rfl
  rw [h1] at g1; rw [h2] at g2; rw [h3] at g3; rw [h4] at g4; rw [h5] at g5; rw [h6] at g6; rw [z] at g0
  refine ⟨s6, ?_, ?_, ?_, ?_, ?_, ?_, ?_⟩
  · rw [g6, if_neg (by omega), g5, if_neg (by omega), g4, if_neg (by omega), g3, if_neg (by omega), g2, if_neg (by omega), g1, if_neg (by omega), g0, if_pos (by omega)]; rfl
  · intro i hi; rw [g6, if_neg (by omega), g5, if_neg (by omega), g4, if_neg (by omega), g3, if_neg (by omega), g2, if_neg (by omega), g1, if_pos (by omega), Nat.add_sub_cancel_left]
  · intro i hi; rw [g6, if_neg (by omega), g5, if_neg (by omega), g4, if_neg (by omega), g3, if_neg (by omega), g2, if_pos (by omega), Nat.add_sub_cancel_left]
  · intro i hi; rw [g6, if_neg (by omega), g5, if_neg (by omega), g4, if_neg (by omega), g3, if_pos (by omega), Nat.add_sub_cancel_left]
  · intro i hi; rw [g6, if_neg (by omega), g5, if_neg (by omega), g4, if_pos (by omega), Nat.add_sub_cancel_left]
  · intro i hi; rw [g6, if_neg (by omega), g5, if_pos (by omega), Nat.add_sub_cancel_left]
  · intro i hi; rw [g6, if_pos (by omega), Nat.add_sub_cancel_left]

theorem ext_blk {w w' : World} (hx : Ext w w') {k : Nat} {o : Obj} (h : w.heap[k]? = some o) : w'.heap[k]? = some o := by
  have hk : k < w.heap.size := by
    rcases Nat.lt_or_ge k w.heap.size with h' | h'
    · exact h'
    · rw [Array.getElem?_eq_none h'] at h; cases h
  rw [hx.block k hk]; exact h
theorem six_new (w : World) (o1 o2 o3 o4 o5 o6 : Obj) :
    ((((((w.alloc o1).alloc o2).alloc o3).alloc o4).alloc o5).alloc o6).heap[w.heap.size]? = some o1 ∧ ((((((w.alloc o1).alloc o2).alloc o3).alloc o4).alloc o5).alloc o6).heap[w.heap.size + 1]? = some o2 ∧
    ((((((w.alloc o1).alloc o2).alloc o3).alloc o4).alloc o5).alloc o6).heap[w.heap.size + 1 + 1]? = some o3 ∧ ((((((w.alloc o1).alloc o2).alloc o3).alloc o4).alloc o5).alloc o6).heap[w.heap.size + 1 + 1 + 1]? = some o4 ∧
    ((((((w.alloc o1).alloc o2).alloc o3).alloc o4).alloc o5).alloc o6).heap[w.heap.size + 1 + 1 + 1 + 1]? = some o5 ∧ ((((((w.alloc o1).alloc o2).alloc o3).alloc o4).alloc o5).alloc o6).heap[w.heap.size + 1 + 1 + 1 + 1 + 1]? = some o6 ∧
    ((((((w.alloc o1).alloc o2).alloc o3).alloc o4).alloc o5).alloc o6).heap.size = w.heap.size + 6 ∧ Ext w ((((((w.alloc o1).alloc o2).alloc o3).alloc o4).alloc o5).alloc o6) := by
  have e : ∀ (x : World) (o : Obj), (x.alloc o).heap.size = x.heap.size + 1 := fun x o => by simp
  have l1 := heap_alloc_last w o1
  have l2 := heap_alloc_last (w.alloc o1) o2
  have l3 := heap_alloc_last ((w.alloc o1).alloc o2) o3
  have l4 := heap_alloc_last (((w.alloc o1).alloc o2).alloc o3) o4
  have l5 := heap_alloc_last ((((w.alloc o1).alloc o2).alloc o3).alloc o4) o5
  have l6 := heap_alloc_last (((((w.alloc o1).alloc o2).alloc o3).alloc o4).alloc o5) o6
  have x6 := Ext.alloc (((((w.alloc o1).alloc o2).alloc o3).alloc o4).alloc o5) o6
  have x5 := (Ext.alloc ((((w.alloc o1).alloc o2).alloc o3).alloc o4) o5).trans x6
  have x4 := (Ext.alloc (((w.alloc o1).alloc o2).alloc o3) o4).trans x5
  have x3 := (Ext.alloc ((w.alloc o1).alloc o2) o3).trans x4
  have x2 := (Ext.alloc (w.alloc o1) o2).trans x3
  have x1 := (Ext.alloc w o1).trans x2
  simp only [e] at l2 l3 l4 l5 l6
  exact ⟨ext_blk x2 l1, ext_blk x3 l2, ext_blk x4 l3, ext_blk x5 l4, ext_blk x6 l5, l6, by simp only [e], x1⟩
theorem wpList_build {P : Program} {ops : Array Oper} {rest : List Oper} {o : Oper} {a : Act} {w : World} {Q : Exit → Act → World → Prop} (hgd : o.guard = none) (t : TypeId) (parts : Array (Nat × Operand)) (ho : o.op = .build t parts)
    (vals : Array (Nat × Value)) (hp : parts.map (fun p => (p.1, a.eval p.2)) = vals) (v : Value) (hr : (Instr.build t vals).run P w = .ok v w) (h : wpList P ops Q rest (a.put o.dst v) w) : wpList P ops Q (o :: rest) a w :=
  wpList_plain hgd fun _ hK => by
    have e : (execOp a.eval o).run P w = .ok (.value v) w := by
      unfold execOp
      simp only [ho]
      rw [Sem.run_bind, hp, hr]; rfl
    unfold Oper.wp
    rw [e]
    exact hK _ _ h

set_option maxRecDepth 100000 in
set_option maxHeartbeats 400000 in
theorem mk29 (gb : Nat) (A1 A2 A3 A4 D1 D2 : Array Value) (w : World) (h1 : A1.size = 804) (h2 : A2.size = 804) (h3 : A3.size = 804) (h4 : A4.size = 804) (h5 : D1.size = 200) (h6 : D2.size = 200) :
    Calls Try.prog 29 #[.float .f64 gb, .agg A1, .agg A2, .agg A3, .agg A4, .agg D1, .agg D2] w fun e w' => e = .returned (.pointer (some ⟨w.heap.size + 6, 0, none⟩)) ∧ Ext w w' ∧ w'.heap[w.heap.size + 6]? = some (.cells (K63 gb A1 A2 A3 A4 D1 D2) 63) := by
  have hb := run_build63 gb A1 A2 A3 A4 D1 D2
  go_enter Try.func29, Try.ntmps29
  go_upto_region 1 with fail
  obtain ⟨f1, f2, f3, f4, f5, f6, fs, fx⟩ := six_new w (.cells A1 52) (.cells A2 52) (.cells A3 52) (.cells A4 52) (.cells D1 39) (.cells D2 39)
  generalize ((((((w.alloc (.cells A1 52)).alloc (.cells A2 52)).alloc (.cells A3 52)).alloc (.cells A4 52)).alloc (.cells D1 39)).alloc (.cells D2 39)) = X at *
  have FX : Box (Ext w X) := ⟨fx⟩
  have FS : Box (X.heap.size = w.heap.size + 6) := ⟨fs⟩
  have hi52 : ∀ A : Array Value, A.size = 804 → (Try.prog.info? 52).map (·.size) = some A.size := fun A h => by rw [h]; kernel_rfl
  have hi39 : ∀ A : Array Value, A.size = 200 → (Try.prog.info? 39).map (·.size) = some A.size := fun A h => by rw [h]; kernel_rfl
  have F1 : Box (X.heap[w.heap.size]? = some (.cells A1 52)) := ⟨f1⟩
  have F2 : Box (X.heap[w.heap.size + 1]? = some (.cells A2 52)) := ⟨f2⟩
  have F3 : Box (X.heap[w.heap.size + 1 + 1]? = some (.cells A3 52)) := ⟨f3⟩
  have F4 : Box (X.heap[w.heap.size + 1 + 1 + 1]? = some (.cells A4 52)) := ⟨f4⟩
  have F5 : Box (X.heap[w.heap.size + 1 + 1 + 1 + 1]? = some (.cells D1 39)) := ⟨f5⟩
  have F6 : Box (X.heap[w.heap.size + 1 + 1 + 1 + 1 + 1]? = some (.cells D2 39)) := ⟨f6⟩
  have I1 := hi52 A1 h1
  have I2 := hi52 A2 h2
  have I3 := hi52 A3 h3
  have I4 := hi52 A4 h4
  have I5 := hi39 D1 h5
  have I6 := hi39 D2 h6
  have HB := Box.mk (hb X h1 h2 h3 h4 h5 h6)
  generalize hK : K63 gb A1 A2 A3 A4 D1 D2 = K at HB
  have HK : Box (K63 gb A1 A2 A3 A4 D1 D2 = K) := ⟨hK⟩
  clear hK
  have HI : Box (((Try.prog.info? 52).map (·.size) = some A1.size ∧ (Try.prog.info? 52).map (·.size) = some A2.size ∧ (Try.prog.info? 52).map (·.size) = some A3.size ∧ (Try.prog.info? 52).map (·.size) = some A4.size ∧ (Try.prog.info? 39).map (·.size) = some D1.size ∧ (Try.prog.info? 39).map (·.size) = some D2.size)) := ⟨I1, I2, I3, I4, I5, I6⟩
  clear f1 f2 f3 f4 f5 f6 fs fx hi52 hi39 I1 I2 I3 I4 I5 I6 hb h1 h2 h3 h4 h5 h6
  go_wp2_with (first
    | (refine wpList_load_row (by rfl) 52 (.tmp 8) (by rfl) _ (by rfl) 52 A1 _ _ F1.out Try.underlying52 (by rfl) HI.out.1 ?_)
    | (refine wpList_load_row (by rfl) 52 (.tmp 9) (by rfl) _ (by rfl) 52 A2 _ _ F2.out Try.underlying52 (by rfl) HI.out.2.1 ?_)
    | (refine wpList_load_row (by rfl) 52 (.tmp 10) (by rfl) _ (by rfl) 52 A3 _ _ F3.out Try.underlying52 (by rfl) HI.out.2.2.1 ?_)
    | (refine wpList_load_row (by rfl) 52 (.tmp 11) (by rfl) _ (by rfl) 52 A4 _ _ F4.out Try.underlying52 (by rfl) HI.out.2.2.2.1 ?_)
    | (refine wpList_load_row (by rfl) 39 (.tmp 12) (by rfl) _ (by rfl) 39 D1 _ _ F5.out Try.underlying39 (by rfl) HI.out.2.2.2.2.1 ?_)
    | (refine wpList_load_row (by rfl) 39 (.tmp 13) (by rfl) _ (by rfl) 39 D2 _ _ F6.out Try.underlying39 (by rfl) HI.out.2.2.2.2.2 ?_)
    | (refine wpList_build (by rfl) 63 #[(0, .tmp 15), (1, .tmp 16), (2, .tmp 17), (3, .tmp 18), (4, .tmp 19), (5, .tmp 20), (6, .tmp 21)] (by rfl) _ (by simp [Act.eval, Act.put]) _ HB.out ?_))
  go_ret
  obtain hfx := FX.out
  have hfs := FS.out
  refine ⟨?_, ?_, ?_⟩
  · show Ending.returned (.pointer (some ⟨X.heap.size, 0, none⟩)) = _
    rw [hfs]
  · exact hfx.trans (Ext.alloc _ _)
  · rw [← hfs, HK.out]; exact heap_alloc_last _ _
end Go.Proofs.Qxb6601308a.Ad
