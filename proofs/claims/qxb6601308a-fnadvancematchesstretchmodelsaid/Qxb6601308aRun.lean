import Derived.Test.Qxb6601308aQuiet
import Derived.Test.Qxb6601308aAdvance
import Derived.Test.Qxb6601308aSteps

namespace Go.Proofs.Qxb6601308a.Ad
set_option linter.unusedVariables false
open Go.ChangeShapes Go.WideShapes Go.ChangeAt Go.RowKit Rg
open Qxb6601308a.Fl (cl fmul fadd Box)
attribute [local go_sem] Fl.run_store_float
def Z53 : Array Value := Array.replicate 3216 (.float .f64 0)
theorem zero53 : (Try.prog.info? 53).map (fun i => (i.zero, i.size)) = some (some (.agg Z53), 3216) := by kernel_rfl
theorem idx38 (b i : Nat) (h : i < 4) (w : World) : (Instr.indexAt 38 (.pointer (some ⟨b, 0, none⟩)) (.int .i64 (i : Nat))).run Try.prog w = .ok (.pointer (some ⟨b, i * 603, none⟩)) w := by
  go_simp <;> (intro h'; omega)
theorem idx37 (b o i : Nat) (h : i < 201) (w : World) : (Instr.indexAt 37 (.pointer (some ⟨b, o, none⟩)) (.int .i64 (i : Nat))).run Try.prog w = .ok (.pointer (some ⟨b, o + i * 3, none⟩)) w := by
  go_simp <;> (intro h'; omega)
theorem idx36_0 (b o : Nat) (w : World) : (Instr.indexAt 36 (.pointer (some ⟨b, o, none⟩)) (.int .i64 0)).run Try.prog w = .ok (.pointer (some ⟨b, o, none⟩)) w := by go_simp
theorem idx36_1 (b o : Nat) (w : World) : (Instr.indexAt 36 (.pointer (some ⟨b, o, none⟩)) (.int .i64 1)).run Try.prog w = .ok (.pointer (some ⟨b, o + 1, none⟩)) w := by go_simp
theorem idx36_2 (b o : Nat) (w : World) : (Instr.indexAt 36 (.pointer (some ⟨b, o, none⟩)) (.int .i64 2)).run Try.prog w = .ok (.pointer (some ⟨b, o + 2, none⟩)) w := by go_simp
theorem idx53 (b i : Nat) (h : i < 4) (w : World) : (Instr.indexAt 53 (.pointer (some ⟨b, 0, none⟩)) (.int .i64 (i : Nat))).run Try.prog w = .ok (.pointer (some ⟨b, i * 804, none⟩)) w := by
  go_simp <;> (intro h'; omega)
theorem idx52 (b o i : Nat) (h : i < 201) (w : World) : (Instr.indexAt 52 (.pointer (some ⟨b, o, none⟩)) (.int .i64 (i : Nat))).run Try.prog w = .ok (.pointer (some ⟨b, o + i * 4, none⟩)) w := by
  go_simp <;> (intro h'; omega)
theorem bld51 (x y z : Nat) (w : World) : (Instr.build 51 #[(0, .float .f64 x), (1, .float .f64 y), (2, .float .f64 z)]).run Try.prog w = .ok (.agg #[.float .f64 x, .float .f64 y, .float .f64 z, .float .f64 0]) w := by kernel_rfl
theorem sx_build51 {w0 : World} {W : Nat → Value → World → Prop} {d x y z ty : Nat} {pos : String} {af : Array Edge} {p q r : Nat}
    (h1 : ∀ v w, W x v w → v = .float .f64 p) (h2 : ∀ v w, W y v w → v = .float .f64 q) (h3 : ∀ v w, W z v w → v = .float .f64 r) (hd : ∀ w, W d (.agg #[.float .f64 p, .float .f64 q, .float .f64 r, .float .f64 0]) w) :
    StepX Try.prog w0 W ⟨some d, .build 51 #[(0, .tmp x), (1, .tmp y), (2, .tmp z)], ty, pos, af, none⟩ :=
  sx_val (u := fun _ _ => .agg #[.float .f64 p, .float .f64 q, .float .f64 r, .float .f64 0]) fun a w' _ ho => by
    have e1 := h1 _ _ (ho x (by simp [Op.operands]))
    have e2 := h2 _ _ (ho y (by simp [Op.operands]))
    have e3 := h3 _ _ (ho z (by simp [Op.operands]))
    refine ⟨?_, fun d' h' => by cases h'; exact hd _⟩
    have e : (#[((0 : Nat), Operand.tmp x), (1, .tmp y), (2, .tmp z)].map fun p => (p.1, a.eval p.2)) = #[(0, .float .f64 p), (1, .float .f64 q), (2, .float .f64 r)] := by simp [e1, e2, e3]
    show ((do let s ← Instr.build 51 (#[((0 : Nat), Operand.tmp x), (1, .tmp y), (2, .tmp z)].map fun p => (p.1, a.eval p.2)); pure (Next.value s) : Sem Next)).run Try.prog w' = _
    rw [e, Sem.run_bind, bld51]; rfl

/-- cell i of the four tables of three numbers, laid as rows of four -/
def tv (ff : Nat → Nat) (i : Nat) : Nat := if i % 4 = 3 then 0 else ff (i / 4 * 3 + i % 4)
/-- cell i of the steps -/
def kv (gb : Nat) (ff dd : Nat → Nat) (i : Nat) : Nat := if i = 0 then gb else if i < 3217 then tv ff (i - 1) else dd (i - 3217)

/-- what stays through runAdvance's loops: the boxes, the room for the result and for the tables; the tables' first N rows -/
def TR (w : World) (ff dd ss : Nat → Nat) (N : Nat) (wr : World) : Prop :=
  Ext w wr ∧ w.heap.size + 5 ≤ wr.heap.size ∧ (∀ i, i < 2412 → wr.cell? ⟨w.heap.size, i, none⟩ = some (.float .f64 (ff i))) ∧ (∀ i, i < 400 → wr.cell? ⟨w.heap.size + 1, i, none⟩ = some (.float .f64 (dd i))) ∧
  (∀ i, i < 4 → wr.cell? ⟨w.heap.size + 1 + 1, i, none⟩ = some (.float .f64 (ss i))) ∧ wr.there (w.heap.size + 1 + 1 + 1) 0 4 ∧ wr.there (w.heap.size + 1 + 1 + 1 + 1) 0 3216 ∧
  ∀ i, i < N * 4 → wr.cell? ⟨w.heap.size + 1 + 1 + 1 + 1, i, none⟩ = some (.float .f64 (tv ff i))
theorem TR_put {w wr w' : World} {ff dd ss : Nat → Nat} {a k : Nat} (h : TR w ff dd ss (a * 201 + k) wr) (hx : Ext wr w') (ha : a < 4) (hk : k < 201) :
    TR w ff dd ss (a * 201 + (k + 1)) (w'.setCells (w.heap.size + 1 + 1 + 1 + 1) (a * 804 + k * 4) [.float .f64 (ff (a * 603 + k * 3)), .float .f64 (ff (a * 603 + k * 3 + 1)), .float .f64 (ff (a * 603 + k * 3 + 2)), .float .f64 0]) := by
  obtain ⟨h1, h2, h3, h4, h5, h6, h7, h8⟩ := h
  have hth : w'.there (w.heap.size + 1 + 1 + 1 + 1) (a * 804 + k * 4) 4 := there_sub (there_ext h7 hx) (Nat.zero_le _) (by omega)
  have hr := World.rangeAt_setCells_same w' (w.heap.size + 1 + 1 + 1 + 1) (a * 804 + k * 4) [.float .f64 (ff (a * 603 + k * 3)), .float .f64 (ff (a * 603 + k * 3 + 1)), .float .f64 (ff (a * 603 + k * 3 + 2)), .float .f64 0] hth
  have other : ∀ b i, b ≠ w.heap.size + 1 + 1 + 1 + 1 → (w'.setCells (w.heap.size + 1 + 1 + 1 + 1) (a * 804 + k * 4) [.float .f64 (ff (a * 603 + k * 3)), .float .f64 (ff (a * 603 + k * 3 + 1)), .float .f64 (ff (a * 603 + k * 3 + 2)), .float .f64 0]).cell? ⟨b, i, none⟩ = w'.cell? ⟨b, i, none⟩ :=
    fun b i hb => World.cell?_setCells_out _ _ _ w' ⟨b, i, none⟩ (fun e _ => absurd e hb)
  refine ⟨below_setCells _ (by omega) _ _ _ (h1.trans hx), by rw [size_setCells]; have := hx.size; omega, ?_, ?_, ?_, World.there_setCells (there_ext h6 hx) _ _ _, World.there_setCells (there_ext h7 hx) _ _ _, ?_⟩
  · intro i hi; rw [other _ i (by omega)]; exact hx.cell (h3 i hi)
  · intro i hi; rw [other _ i (by omega)]; exact hx.cell (h4 i hi)
  · intro i hi; rw [other _ i (by omega)]; exact hx.cell (h5 i hi)
  · intro i hi
    by_cases e : i < (a * 201 + k) * 4
    · rw [World.cell?_setCells_out _ _ _ w' ⟨w.heap.size + 1 + 1 + 1 + 1, i, none⟩ (fun _ _ => by left; show i < a * 804 + k * 4; omega)]
      exact hx.cell (h8 i e)
    · obtain ⟨j, hj, rfl⟩ : ∃ j, j < 4 ∧ i = a * 804 + k * 4 + j := ⟨i - (a * 804 + k * 4), by omega, by omega⟩
      have hv : ∀ j, j < 3 → tv ff (a * 804 + k * 4 + j) = ff (a * 603 + k * 3 + j) := fun j hj => by
        unfold tv
        rw [if_neg (by omega), show (a * 804 + k * 4 + j) / 4 * 3 + (a * 804 + k * 4 + j) % 4 = a * 603 + k * 3 + j from by omega]
      have hv3 : tv ff (a * 804 + k * 4 + 3) = 0 := by unfold tv; rw [if_pos (by omega)]
      obtain rfl | rfl | rfl | rfl : j = 0 ∨ j = 1 ∨ j = 2 ∨ j = 3 := by omega
      · have e0 := hr 0 _ rfl
        have v0 := hv 0 (by omega)
        simp only [Nat.add_zero] at e0 v0 ⊢
        rw [v0]; exact e0
      · rw [hv 1 (by omega)]; exact hr 1 _ rfl
      · rw [hv 2 (by omega)]; exact hr 2 _ rfl
      · rw [hv3]; exact hr 3 _ rfl
def flL (f : Nat → Nat) (o n : Nat) : List Value := (List.range n).map fun i => .float .f64 (f (o + i))
theorem flL_length (f : Nat → Nat) (o n : Nat) : (flL f o n).length = n := by simp [flL]
theorem flL_get (f : Nat → Nat) (o n i : Nat) (h : i < n) : (flL f o n)[i]? = some (.float .f64 (f (o + i))) := by simp [flL, h]
theorem flL_range {w : World} {b : Nat} {f : Nat → Nat} (o n : Nat) (h : ∀ i, o ≤ i → i < o + n → w.cell? ⟨b, i, none⟩ = some (.float .f64 (f i))) : w.rangeAt b o (flL f o n) := by
  intro j v hv
  have hj : j < n := by
    have := (List.getElem?_eq_some_iff.1 hv).1
    rwa [flL_length] at this
  rw [flL_get f o n j hj] at hv
  cases hv
  exact h (o + j) (by omega) (by omega)
/-- the cells of the steps -/
theorem kv_cells (gb : Nat) (ff dd : Nat → Nat) (w : World) (b : Nat) (h : w.heap[b]? = some (.cells (K63 gb (flL (tv ff) 0 804).toArray (flL (tv ff) 804 804).toArray (flL (tv ff) 1608 804).toArray (flL (tv ff) 2412 804).toArray (flL dd 0 200).toArray (flL dd 200 200).toArray) 63)) :
    ∀ i, i < 3617 → w.cell? ⟨b, i, none⟩ = some (.float .f64 (kv gb ff dd i)) := by
  have sz : ∀ f o n, (flL f o n).toArray.size = n := fun f o n => by simp [flL]
  have gt : ∀ f o n i, i < n → (flL f o n).toArray[i]? = some (.float .f64 (f (o + i))) := fun f o n i hi => by
    rw [List.getElem?_toArray]; exact flL_get f o n i hi
  obtain ⟨_, k0, k1, k2, k3, k4, k5, k6⟩ := K63_spec gb (flL (tv ff) 0 804).toArray (flL (tv ff) 804 804).toArray (flL (tv ff) 1608 804).toArray (flL (tv ff) 2412 804).toArray (flL dd 0 200).toArray (flL dd 200 200).toArray (sz _ _ _) (sz _ _ _) (sz _ _ _) (sz _ _ _) (sz _ _ _) (sz _ _ _)
  intro i hi
  rw [cell_of_row w b i _ 63 (0, 0) h]
  unfold kv
  by_cases e0 : i = 0
  · subst e0; rw [if_pos rfl]; exact k0
  rw [if_neg e0]
  by_cases e1 : i < 805
  · obtain ⟨j, rfl⟩ : ∃ j, i = 1 + j := ⟨i - 1, by omega⟩
    rw [k1 j (by omega), gt _ _ _ j (by omega), if_pos (by omega), show 0 + j = 1 + j - 1 from by omega]
  by_cases e2 : i < 1609
  · obtain ⟨j, rfl⟩ : ∃ j, i = 805 + j := ⟨i - 805, by omega⟩
    rw [k2 j (by omega), gt _ _ _ j (by omega), if_pos (by omega), show 804 + j = 805 + j - 1 from by omega]
  by_cases e3 : i < 2413
  · obtain ⟨j, rfl⟩ : ∃ j, i = 1609 + j := ⟨i - 1609, by omega⟩
    rw [k3 j (by omega), gt _ _ _ j (by omega), if_pos (by omega), show 1608 + j = 1609 + j - 1 from by omega]
  by_cases e4 : i < 3217
  · obtain ⟨j, rfl⟩ : ∃ j, i = 2413 + j := ⟨i - 2413, by omega⟩
    rw [k4 j (by omega), gt _ _ _ j (by omega), if_pos (by omega), show 2412 + j = 2413 + j - 1 from by omega]
  rw [if_neg e4]
  by_cases e5 : i < 3417
  · obtain ⟨j, rfl⟩ : ∃ j, i = 3217 + j := ⟨i - 3217, by omega⟩
    rw [k5 j (by omega), gt _ _ _ j (by omega), show 0 + j = 3217 + j - 3217 from by omega]
  · obtain ⟨j, rfl⟩ : ∃ j, i = 3417 + j := ⟨i - 3417, by omega⟩
    rw [k6 j (by omega), gt _ _ _ j (by omega), show 200 + j = 3417 + j - 3217 from by omega]

/-! ### events as they come in, events as advance reads them -/
def toE (l : List E0) : List E := l.map fun e => ⟨e.cyc.toNat, e.ca, e.act⟩
def Incr0 : Int → List E0 → Prop
  | _, [] => True
  | t, b :: l => t < b.cyc ∧ b.cyc < 200 ∧ Incr0 b.cyc l
theorem incr_of : ∀ (l : List E0) (a : E0), (∀ i, 1 ≤ i → i < (a :: l).length → cycAt (a :: l) (i - 1) < cycAt (a :: l) i ∧ cycAt (a :: l) i < 200) → Incr0 a.cyc l
  | [], _, _ => trivial
  | b :: l, a, h => by
    have h1 := h 1 (Nat.le_refl _) (by simp)
    refine ⟨h1.1, h1.2, incr_of l b ?_⟩
    intro i hi hl
    have := h (i + 1) (by omega) (by simp at hl ⊢; omega)
    obtain ⟨j, rfl⟩ : ∃ j, i = j + 1 := ⟨i - 1, by omega⟩
    exact this
theorem inc_toE : ∀ (l : List E0) (t : Int), 0 ≤ t → Incr0 t l → Inc t.toNat (toE l) ∧ ∀ e ∈ l, 0 ≤ e.cyc
  | [], _, _, _ => ⟨trivial, fun e he => by cases he⟩
  | b :: l, t, ht, h => by
    obtain ⟨h1, h2⟩ := inc_toE l b.cyc (by have := h.1; omega) h.2.2
    have a1 := h.1
    have a2 := h.2.1
    refine ⟨⟨by show t.toNat < b.cyc.toNat; omega, by show b.cyc.toNat < 200; omega, h1⟩, ?_⟩
    intro e he
    rcases List.mem_cons.1 he with rfl | h'
    · omega
    · exact h2 e h'
theorem wf_toE {l : List E0} (h : WfTo l l.length) : Ok 0 (toE l) ∧ ∀ e ∈ l, 0 ≤ e.cyc := by
  match l, h with
  | a :: l, h =>
    have h0 : a.cyc = 0 := h.2.1
    have hi := incr_of l a h.2.2
    rw [h0] at hi
    obtain ⟨h1, h2⟩ := inc_toE l 0 (by omega) hi
    refine ⟨⟨by simp [toE], by show a.cyc.toNat ≤ 0; omega, h1⟩, ?_⟩
    intro e he
    rcases List.mem_cons.1 he with rfl | h'
    · omega
    · exact h2 e h'
theorem toE_length (l : List E0) : (toE l).length = l.length := by simp [toE]
theorem evs_of_raw {w : World} {b o : Nat} {l : List E0} (h : RawAt w b o l) (hp : ∀ e ∈ l, 0 ≤ e.cyc) : EvsAt w b o (toE l) := by
  intro i e he
  unfold toE at he
  rw [List.getElem?_map] at he
  cases hi : l[i]? with
  | none => rw [hi] at he; cases he
  | some e0 =>
    rw [hi] at he
    cases he
    have := h i e0 hi
    have hc : ((e0.cyc.toNat : Nat) : Int) = e0.cyc := by have := hp e0 (List.mem_of_getElem? hi); omega
    exact ⟨by show w.cell? _ = some (.int .i64 ((e0.cyc.toNat : Nat) : Int)); rw [hc]; exact this.1, this.2.1, this.2.2⟩
theorem raw_ext {w w' : World} {b o : Nat} {l : List E0} (h : RawAt w b o l) (hx : Ext w w') : RawAt w' b o l := fun i e he =>
  have := h i e he
  ⟨hx.cell this.1, hx.cell this.2.1, hx.cell this.2.2⟩

theorem cellsNew (w : World) (C : Array Value) (t : TypeId) (i : Nat) : (w.alloc (.cells C t)).cell? ⟨w.heap.size, i, none⟩ = C[i]? := cell_of_row _ _ _ C t (0, 0) (heap_alloc_last w _)
/-- the world in which the loops begin -/
theorem TR_start (w : World) (F D S R : Array Value) (ff dd ss : Nat → Nat) (hF : ∀ i, i < 2412 → F[i]? = some (.float .f64 (ff i))) (hD : ∀ i, i < 400 → D[i]? = some (.float .f64 (dd i))) (hS : ∀ i, i < 4 → S[i]? = some (.float .f64 (ss i))) (hR : R.size = 4) :
    TR w ff dd ss 0 (((((w.alloc (.cells F 38)).alloc (.cells D 40)).alloc (.cells S 41)).alloc (.cells R 41)).alloc (.cells Z53 53)) := by
  have e : ∀ (x : World) (o : Obj), (x.alloc o).heap.size = x.heap.size + 1 := fun x o => by simp
  have c1 := fun i => cellsNew w F 38 i
  have c2 := fun i => cellsNew (w.alloc (.cells F 38)) D 40 i
  have c3 := fun i => cellsNew ((w.alloc (.cells F 38)).alloc (.cells D 40)) S 41 i
  have t4 := there_made (((w.alloc (.cells F 38)).alloc (.cells D 40)).alloc (.cells S 41)) R 41
  have t5 := there_made ((((w.alloc (.cells F 38)).alloc (.cells D 40)).alloc (.cells S 41)).alloc (.cells R 41)) Z53 53
  have hZ : Z53.size = 3216 := by simp [Z53]
  rw [hZ] at t5
  rw [hR] at t4
  simp only [e] at c2 c3 t4 t5
  have x5 := Ext.alloc ((((w.alloc (.cells F 38)).alloc (.cells D 40)).alloc (.cells S 41)).alloc (.cells R 41)) (.cells Z53 53)
  have x4 := (Ext.alloc (((w.alloc (.cells F 38)).alloc (.cells D 40)).alloc (.cells S 41)) (.cells R 41)).trans x5
  have x3 := (Ext.alloc ((w.alloc (.cells F 38)).alloc (.cells D 40)) (.cells S 41)).trans x4
  have x2 := (Ext.alloc (w.alloc (.cells F 38)) (.cells D 40)).trans x3
  have x1 := (Ext.alloc w (.cells F 38)).trans x2
  refine ⟨x1, by simp only [e]; omega, fun i hi => ?_, fun i hi => ?_, fun i hi => ?_, there_ext t4 x5, t5, fun i hi => by omega⟩
  · exact Rg.Ext.cell x2 ((c1 i).trans (hF i hi))
  · exact Rg.Ext.cell x3 ((c2 i).trans (hD i hi))
  · exact Rg.Ext.cell x4 ((c3 i).trans (hS i hi))

set_option maxRecDepth 100000 in
set_option maxHeartbeats 1000000 in
theorem adv30 (bc b2 bs br m p d : Nat) (kf : Nat → Nat) (s r : List E) (ns nr : Nat) (w : World) (hK : ∀ i, i < 3617 → w.cell? ⟨bc, i, none⟩ = some (.float .f64 (kf i)))
    (hs : EvsAt w bs 0 s) (hr : EvsAt w br 0 r) (ls : s.length = ns) (lr : r.length = nr) (lcs : ns ≤ 16384) (lcr : nr ≤ 16384) (os0 : Ok 0 s) (or0 : Ok 0 r)
    (c0 : w.cell? ⟨b2, 0, none⟩ = some (.float .f64 m)) (c1 : w.cell? ⟨b2, 1, none⟩ = some (.float .f64 p)) (c2 : w.cell? ⟨b2, 2, none⟩ = some (.float .f64 d))
    (f0 : w.frozen? ⟨b2, 0, none⟩ = false) (f1 : w.frozen? ⟨b2, 1, none⟩ = false) (f2 : w.frozen? ⟨b2, 2, none⟩ = false) :
    Calls Try.prog 30 #[.pointer (some ⟨bc, 0, none⟩), .pointer (some ⟨b2, 0, none⟩), .slice (some ⟨bs, 0, none⟩) ns ns, .slice (some ⟨br, 0, none⟩) nr nr] w
      fun e w' => ∃ m' p' d' n', e = .returned (.tuple #[]) ∧ w' = (((w.drewN n').setCell ⟨b2, 0, none⟩ (.float .f64 m')).setCell ⟨b2, 1, none⟩ (.float .f64 p')).setCell ⟨b2, 2, none⟩ (.float .f64 d') ∧ (cl m', cl p', cl d') = adv (fun i => cl (kf i)) 200 0 s r (cl m, cl p, cl d) := by
  subst ls lr
  have H := Box.mk (adv38 bc b2 bs br 0 0 s.length r.length m p d kf s r w hK hs hr (Nat.le_refl _) (Nat.le_refl _) (by omega) (by omega) os0 or0 c0 c1 c2 f0 f1 f2)
  clear hK hs hr os0 or0 c0 c1 c2 f0 f1 f2
  go_enter Try.func30, Try.ntmps30
  go_wp2_with fail
  refine H.out.mono ?_
  rintro e w' ⟨m', p', d', n', rfl, rfl, hres⟩
  have HR := Box.mk hres
  clear hres H
  go_wp2_with fail
  go_end0
  exact ⟨m', p', d', n', rfl, rfl, HR.out⟩

set_option maxRecDepth 100000 in
set_option maxHeartbeats 1000000 in
theorem run22 (gb : Nat) (F D S : Array Value) (ff dd ss : Nat → Nat) (bs os cs br or cr : Nat) (sv rv : List E0) (w : World) (hF : ∀ i, i < 2412 → F[i]? = some (.float .f64 (ff i))) (hD : ∀ i, i < 400 → D[i]? = some (.float .f64 (dd i))) (hS : ∀ i, i < 4 → S[i]? = some (.float .f64 (ss i)))
    (hs : RawAt w bs os sv) (hr : RawAt w br or rv) (ls : sv.length ≤ 16384) (lr : rv.length ≤ 16384) (lsc : sv.length ≤ cs) (lrc : rv.length ≤ cr) (ws : WfTo sv sv.length) (wr : WfTo rv rv.length) :
    Calls Try.prog 22 #[.float .f64 gb, .agg F, .agg D, .agg S, .slice (some ⟨bs, os, none⟩) sv.length cs, .slice (some ⟨br, or, none⟩) rv.length cr] w fun e w' => ∃ m p d, e = .returned (.agg #[.float .f64 m, .float .f64 p, .float .f64 d, .float .f64 (ss 3)]) ∧ Ext w w' ∧
      (cl m, cl p, cl d) = adv (fun i => cl (kv gb ff dd i)) 200 0 (toE sv) (toE rv) (cl (ss 0), cl (ss 1), cl (ss 2)) := by
  have WS := Box.mk ws
  have WR := Box.mk wr
  have HS := Box.mk hs
  have HR := Box.mk hr
  clear ws wr hs hr
  have hz := (zero_of_info zero53).1
  have HT := Box.mk (TR_start w F D S #[.float .f64 0, .float .f64 0, .float .f64 0, .float .f64 0] ff dd ss hF hD hS rfl)
  clear hF hD hS
  go_enter Try.func22, Try.ntmps22
  go_wp2
  clear hz
  go_loopg [14] 4 (fun gk v14 wr => ∃ a : Nat, v14 = .int .i64 a ∧ a ≤ 4 ∧ gk + a = 4 ∧ TR w ff dd ss (a * 201) wr)
  case atStart => exact ⟨0, rfl, by omega, rfl, by rw [Nat.zero_mul]; exact HT.out⟩
  case round =>
    clear HT
    obtain ⟨a, rfl, ha, hga, hT⟩ := hrel
    by_cases hlt : a < 4
    · have HT : Box (TR w ff dd ss (a * 201) wr) := ⟨hT⟩
      clear hT
      have hd4 : decide ((a : Int) < 4) = true := by simp; omega
      go_wp2
      go_loopg [15] 201 (fun gj v15 wq => ∃ k : Nat, v15 = .int .i64 k ∧ k ≤ 201 ∧ gj + k = 201 ∧ TR w ff dd ss (a * 201 + k) wq)
      case atStart => exact ⟨0, rfl, by omega, rfl, HT.out⟩
      case round =>
        clear HT
        obtain ⟨k, rfl, hk, hgj, hT⟩ := hrel
        by_cases hkl : k < 201
        · have HT := Box.mk hT
          have hFc := hT.2.2.1
          clear hT
          go_wp2
          refine wp_region_litX [(26, ExX (.int .i64 (a : Nat))), (27, ExX (.int .i64 (k : Nat))), (28, ExX (.int .i64 (a : Nat))), (29, ExX (.int .i64 (k : Nat))), (30, ExX (.pointer (some ⟨w.heap.size, a * 603, none⟩))), (31, ExX (.pointer (some ⟨w.heap.size, a * 603 + k * 3, none⟩))), (32, ExX (.pointer (some ⟨w.heap.size, a * 603 + k * 3, none⟩))), (33, ExX (.float .f64 (ff (a * 603 + k * 3)))), (34, ExX (.int .i64 (a : Nat))), (35, ExX (.int .i64 (k : Nat))), (36, ExX (.pointer (some ⟨w.heap.size, a * 603, none⟩))), (37, ExX (.pointer (some ⟨w.heap.size, a * 603 + k * 3, none⟩))), (38, ExX (.pointer (some ⟨w.heap.size, a * 603 + k * 3 + 1, none⟩))), (39, ExX (.float .f64 (ff (a * 603 + k * 3 + 1)))), (40, ExX (.int .i64 (a : Nat))), (41, ExX (.int .i64 (k : Nat))), (42, ExX (.pointer (some ⟨w.heap.size, a * 603, none⟩))), (43, ExX (.pointer (some ⟨w.heap.size, a * 603 + k * 3, none⟩))), (44, ExX (.pointer (some ⟨w.heap.size, a * 603 + k * 3 + 2, none⟩))), (45, ExX (.float .f64 (ff (a * 603 + k * 3 + 2)))), (46, ExX (.agg #[.float .f64 (ff (a * 603 + k * 3)), .float .f64 (ff (a * 603 + k * 3 + 1)), .float .f64 (ff (a * 603 + k * 3 + 2)), .float .f64 0])), (47, ExX (.pointer (some ⟨w.heap.size + 1 + 1 + 1 + 1, a * 804, none⟩))), (48, ExX (.pointer (some ⟨w.heap.size + 1 + 1 + 1 + 1, a * 804 + k * 4, none⟩)))] [(7, ExX (.pointer (some ⟨w.heap.size, 0, none⟩))), (13, ExX (.pointer (some ⟨w.heap.size + 1 + 1 + 1 + 1, 0, none⟩))), (14, ExX (.int .i64 (a : Nat))), (15, ExX (.int .i64 (k : Nat)))] 87 (by rfl) rfl (by kernel_rfl) (by kernel_rfl) (by kernel_rfl) (by kernel_rfl) (by rfl) (by rfl) ⟨mono_ex _, mono_ex _, mono_ex _, mono_ex _, mono_ex _, mono_ex _, mono_ex _, mono_ex _, mono_ex _, mono_ex _, mono_ex _, mono_ex _, mono_ex _, mono_ex _, mono_ex _, mono_ex _, mono_ex _, mono_ex _, mono_ex _, mono_ex _, mono_ex _, mono_ex _, mono_ex _, trivial⟩ ⟨mono_ex _, mono_ex _, mono_ex _, mono_ex _, trivial⟩ ?hin ?hs ?post
          case hin => simp [ExX, Act.eval]
          case hs =>
            refine stepsX_cons (sx_move (fun _ _ h => h)) ?_
            refine stepsX_cons (sx_move (fun _ _ h => h)) ?_
            refine stepsX_cons (sx_move (fun _ _ h => h)) ?_
            refine stepsX_cons (sx_move (fun _ _ h => h)) ?_
            refine stepsX_cons (sx_index (fun _ _ h => h) (fun _ _ h => h) (idx38 w.heap.size a hlt) (fun _ => rfl)) ?_
            refine stepsX_cons (sx_index (fun _ _ h => h) (fun _ _ h => h) (idx37 w.heap.size (a * 603) k (by omega)) (fun _ => rfl)) ?_
            refine stepsX_cons (sx_index_const (fun _ _ h => h) (idx36_0 w.heap.size (a * 603 + k * 3)) (fun _ => rfl)) ?_
            refine stepsX_cons (sx_load (fun _ _ h => h) (fun w' hx => ldf0 (hx.cell (hFc (a * 603 + k * 3) (by omega)))) (fun _ => rfl)) ?_
            refine stepsX_cons (sx_move (fun _ _ h => h)) ?_
            refine stepsX_cons (sx_move (fun _ _ h => h)) ?_
            refine stepsX_cons (sx_index (fun _ _ h => h) (fun _ _ h => h) (idx38 w.heap.size a hlt) (fun _ => rfl)) ?_
            refine stepsX_cons (sx_index (fun _ _ h => h) (fun _ _ h => h) (idx37 w.heap.size (a * 603) k (by omega)) (fun _ => rfl)) ?_
            refine stepsX_cons (sx_index_const (fun _ _ h => h) (idx36_1 w.heap.size (a * 603 + k * 3)) (fun _ => rfl)) ?_
            refine stepsX_cons (sx_load (fun _ _ h => h) (fun w' hx => ldf0 (hx.cell (hFc (a * 603 + k * 3 + 1) (by omega)))) (fun _ => rfl)) ?_
            refine stepsX_cons (sx_move (fun _ _ h => h)) ?_
            refine stepsX_cons (sx_move (fun _ _ h => h)) ?_
            refine stepsX_cons (sx_index (fun _ _ h => h) (fun _ _ h => h) (idx38 w.heap.size a hlt) (fun _ => rfl)) ?_
            refine stepsX_cons (sx_index (fun _ _ h => h) (fun _ _ h => h) (idx37 w.heap.size (a * 603) k (by omega)) (fun _ => rfl)) ?_
            refine stepsX_cons (sx_index_const (fun _ _ h => h) (idx36_2 w.heap.size (a * 603 + k * 3)) (fun _ => rfl)) ?_
            refine stepsX_cons (sx_load (fun _ _ h => h) (fun w' hx => ldf0 (hx.cell (hFc (a * 603 + k * 3 + 2) (by omega)))) (fun _ => rfl)) ?_
            refine stepsX_cons (sx_build51 (fun _ _ h => h) (fun _ _ h => h) (fun _ _ h => h) (fun _ => rfl)) ?_
            refine stepsX_cons (sx_index (fun _ _ h => h) (fun _ _ h => h) (idx53 (w.heap.size + 1 + 1 + 1 + 1) a hlt) (fun _ => rfl)) ?_
            refine stepsX_cons (sx_index (fun _ _ h => h) (fun _ _ h => h) (idx52 (w.heap.size + 1 + 1 + 1 + 1) (a * 804) k (by omega)) (fun _ => rfl)) ?_
            exact trivial
          case post =>
            intro w' hx'
            simp only [forOutX_ex, forOutX_nil]
            simp only [Act.put, List.setIfInBounds_toArray, List.set_cons_succ, List.set_cons_zero]
            have hth := HT.out.2.2.2.2.2.2.1
            refine wp_store_mid 51 (.tmp 48) (.tmp 46) rfl (w.heap.size + 1 + 1 + 1 + 1) (a * 804 + k * 4) #[.float .f64 (ff (a * 603 + k * 3)), .float .f64 (ff (a * 603 + k * 3 + 1)), .float .f64 (ff (a * 603 + k * 3 + 2)), .float .f64 0] rfl rfl (there_sub (there_ext hth hx') (Nat.zero_le _) (by simp; omega)) (by kernel_rfl) (by simp [Value.oneCell']) ?_
            have HN := Box.mk (TR_put HT.out hx' hlt hkl)
            clear HT hth hFc hx'
            simp only
            generalize w'.setCells (w.heap.size + 1 + 1 + 1 + 1) (a * 804 + k * 4) [.float .f64 (ff (a * 603 + k * 3)), .float .f64 (ff (a * 603 + k * 3 + 1)), .float .f64 (ff (a * 603 + k * 3 + 2)), .float .f64 0] = wn at HN ⊢
            go_wp2
            go_roundg (201 - (k + 1))
            case measure => omega
            case rel => exact ⟨k + 1, by go_num, by omega, by omega, HN.out⟩
        · obtain rfl : k = 201 := by omega
          have HT : Box (TR w ff dd ss ((a + 1) * 201) wr) := ⟨by rw [show (a + 1) * 201 = a * 201 + 201 from by omega]; exact hT⟩
          clear hT
          go_wp2
          go_roundg (4 - (a + 1))
          case measure => omega
          case rel => exact ⟨a + 1, by go_num, by omega, by omega, HT.out⟩
    · obtain rfl : a = 4 := by omega
      have HT := Box.mk hT
      clear hT
      obtain ⟨hx, hsz, tF, tD, tS, tR, tT, tC⟩ := HT.out
      have R0 := Box.mk (flL_range (w := wr) (b := w.heap.size + 1 + 1 + 1 + 1) (f := tv ff) 0 804 (fun i _ h => tC i (by omega)))
      have R1 := Box.mk (flL_range (w := wr) (b := w.heap.size + 1 + 1 + 1 + 1) (f := tv ff) 804 804 (fun i _ h => tC i (by omega)))
      have R2 := Box.mk (flL_range (w := wr) (b := w.heap.size + 1 + 1 + 1 + 1) (f := tv ff) 1608 804 (fun i _ h => tC i (by omega)))
      have R3 := Box.mk (flL_range (w := wr) (b := w.heap.size + 1 + 1 + 1 + 1) (f := tv ff) 2412 804 (fun i _ h => tC i (by omega)))
      have Q0 := Box.mk (flL_range (w := wr) (b := w.heap.size + 1) (f := dd) 0 200 (fun i _ h => tD i (by omega)))
      have Q1 := Box.mk (flL_range (w := wr) (b := w.heap.size + 1) (f := dd) 200 200 (fun i _ h => tD i (by omega)))
      have I52 : ∀ f o, Box ((Try.prog.info? 52).map (·.size) = some (flL f o 804).length) := fun f o => ⟨by rw [flL_length]; kernel_rfl⟩
      have I39 : ∀ f o, Box ((Try.prog.info? 39).map (·.size) = some (flL f o 200).length) := fun f o => ⟨by rw [flL_length]; kernel_rfl⟩
      have s0 := tS 0 (by omega)
      have s1 := tS 1 (by omega)
      have s2 := tS 2 (by omega)
      have s3 := tS 3 (by omega)
      clear tF tD tS tR tT tC hx hsz
      go_upto_region 9 with fail
      go_wp2_with (first
        | (refine wpList_load_mid (by rfl) 52 (.tmp 50) (by rfl) _ 0 (by rfl) (flL (tv ff) 0 804) _ R0.out Try.underlying52 (by rfl) (I52 _ _).out ?_)
        | (refine wpList_load_mid (by rfl) 52 (.tmp 52) (by rfl) _ 804 (by rfl) (flL (tv ff) 804 804) _ R1.out Try.underlying52 (by rfl) (I52 _ _).out ?_)
        | (refine wpList_load_mid (by rfl) 52 (.tmp 54) (by rfl) _ 1608 (by rfl) (flL (tv ff) 1608 804) _ R2.out Try.underlying52 (by rfl) (I52 _ _).out ?_)
        | (refine wpList_load_mid (by rfl) 52 (.tmp 56) (by rfl) _ 2412 (by rfl) (flL (tv ff) 2412 804) _ R3.out Try.underlying52 (by rfl) (I52 _ _).out ?_)
        | (refine wpList_load_mid (by rfl) 39 (.tmp 58) (by rfl) _ 0 (by rfl) (flL dd 0 200) _ Q0.out Try.underlying39 (by rfl) (I39 _ _).out ?_)
        | (refine wpList_load_mid (by rfl) 39 (.tmp 60) (by rfl) _ 200 (by rfl) (flL dd 200 200) _ Q1.out Try.underlying39 (by rfl) (I39 _ _).out ?_))
      refine (mk29 gb _ _ _ _ _ _ wr (by simp [flL]) (by simp [flL]) (by simp [flL]) (by simp [flL]) (by simp [flL]) (by simp [flL])).mono ?_
      rintro e w1 ⟨rfl, hx1, hk1⟩
      have K1 := Box.mk (kv_cells gb ff dd w1 _ hk1)
      have X1 := Box.mk hx1
      replace s0 := hx1.cell s0
      replace s1 := hx1.cell s1
      replace s2 := hx1.cell s2
      replace s3 := hx1.cell s3
      clear hx1 hk1 R0 R1 R2 R3 Q0 Q1 I52 I39
      go_wp2_with fail
      have X2 := Box.mk ((HT.out.1.trans X1.out).trans (Ext.alloc w1 (.cells #[.float .f64 (ss 0), .float .f64 (ss 1), .float .f64 (ss 2), .float .f64 (ss 3)] 51)))
      refine (te31 bs os cs sv _ (raw_ext HS.out X2.out) WS.out.1 ls lsc).mono ?_
      rintro e w3 ⟨rfl, hx3, hz3, hc3⟩
      have X3 := Box.mk hx3
      have C3 := Box.mk hc3
      have Z3 := Box.mk hz3
      clear hx3 hc3 hz3 s0 s1 s2 s3
      go_wp2_with fail
      refine (te31 br or cr rv _ (raw_ext HR.out (X2.out.trans X3.out)) WR.out.1 lr lrc).mono ?_
      rintro e w4 ⟨rfl, hx4, hz4, hc4⟩
      have X4 := Box.mk hx4
      have C4 := Box.mk hc4
      clear hx4 hc4 hz4
      go_wp2_with fail
      have hn1 : (w1.alloc (.cells #[.float .f64 (ss 0), .float .f64 (ss 1), .float .f64 (ss 2), .float .f64 (ss 3)] 51)).heap.size = w1.heap.size + 1 := by simp
      have xs := X3.out.trans X4.out
      have tsyn := there_ext (there_made w1 #[.float .f64 (ss 0), .float .f64 (ss 1), .float .f64 (ss 2), .float .f64 (ss 3)] 51) xs
      have csyn := fun i v (h : (#[.float .f64 (ss 0), .float .f64 (ss 1), .float .f64 (ss 2), .float .f64 (ss 3)] : Array Value)[i]? = some v) => xs.cell ((cellsNew w1 #[.float .f64 (ss 0), .float .f64 (ss 1), .float .f64 (ss 2), .float .f64 (ss 3)] 51 i).trans h)
      have c3' := C3.out
      rw [hn1] at c3'
      have hK4 : ∀ i, i < 3617 → w4.cell? ⟨wr.heap.size + 6, i, none⟩ = some (.float .f64 (kv gb ff dd i)) := fun i hi => xs.cell ((Ext.alloc w1 _).cell (K1.out i hi))
      have e1 : EvsAt w4 (w1.heap.size + 1) 0 (toE sv) := evs_of_raw (raw_ext (rawAt_of_cellsTo c3') X4.out) (wf_toE WS.out).2
      have e2 : EvsAt w4 w3.heap.size 0 (toE rv) := evs_of_raw (rawAt_of_cellsTo C4.out) (wf_toE WR.out).2
      refine (adv30 (wr.heap.size + 6) w1.heap.size (w1.heap.size + 1) w3.heap.size (ss 0) (ss 1) (ss 2) (kv gb ff dd) (toE sv) (toE rv) sv.length rv.length w4 hK4 e1 e2 (toE_length _) (toE_length _) ls lr (wf_toE WS.out).1 (wf_toE WR.out).1
        (csyn 0 _ rfl) (csyn 1 _ rfl) (csyn 2 _ rfl) (tsyn 0 (by simp)).2 (tsyn 1 (by simp)).2 (tsyn 2 (by simp)).2).mono ?_
      rintro e w5 ⟨m', p', d', n', rfl, hw5, hres⟩
      have HRES := Box.mk hres
      have hb2 : w.heap.size + 5 ≤ w1.heap.size := by have := HT.out.2.1; have := X1.out.size; omega
      have tr4 := there_ext (there_ext (there_ext HT.out.2.2.2.2.2.1 X1.out) (Ext.alloc w1 (.cells #[.float .f64 (ss 0), .float .f64 (ss 1), .float .f64 (ss 2), .float .f64 (ss 3)] 51))) xs
      have tr5 : w5.there (w.heap.size + 1 + 1 + 1) 0 4 := by rw [hw5]; exact there_set (there_set (there_set (there_ext tr4 (Ext.drewN _ _)) _ _ _) _ _ _) _ _ _
      have x5 : Ext w w5 := by
        rw [hw5]
        exact ((RowKit.Below.setCell ((X2.out.trans xs).trans (Ext.drewN w4 n')) (p := ⟨w1.heap.size, 0, none⟩) (by show w.heap.size ≤ w1.heap.size; omega) _).setCell (p := ⟨w1.heap.size, 1, none⟩) (by show w.heap.size ≤ w1.heap.size; omega) _).setCell (p := ⟨w1.heap.size, 2, none⟩) (by show w.heap.size ≤ w1.heap.size; omega) _
      have y0 : (w4.drewN n').cell? ⟨w1.heap.size, 0, none⟩ = some (.float .f64 (ss 0)) := csyn 0 _ rfl
      have y1 : (w4.drewN n').cell? ⟨w1.heap.size, 1, none⟩ = some (.float .f64 (ss 1)) := csyn 1 _ rfl
      have y2 : (w4.drewN n').cell? ⟨w1.heap.size, 2, none⟩ = some (.float .f64 (ss 2)) := csyn 2 _ rfl
      have y3 : (w4.drewN n').cell? ⟨w1.heap.size, 3, none⟩ = some (.float .f64 (ss 3)) := csyn 3 _ rfl
      have z0 : w5.cell? ⟨w1.heap.size, 0, none⟩ = some (.float .f64 m') := by
        rw [hw5, cell_set_ne _ _ _ _ _ (by omega), cell_set_ne _ _ _ _ _ (by omega)]; exact cell_set_eq _ y0
      have z1 : w5.cell? ⟨w1.heap.size, 1, none⟩ = some (.float .f64 p') := by
        rw [hw5, cell_set_ne _ _ _ _ _ (by omega)]; exact cell_set_eq _ (by rw [cell_set_ne _ _ _ _ _ (by omega)]; exact y1)
      have z2 : w5.cell? ⟨w1.heap.size, 2, none⟩ = some (.float .f64 d') := by
        rw [hw5]; exact cell_set_eq _ (by rw [cell_set_ne _ _ _ _ _ (by omega), cell_set_ne _ _ _ _ _ (by omega)]; exact y2)
      have z3 : w5.cell? ⟨w1.heap.size, 3, none⟩ = some (.float .f64 (ss 3)) := by
        rw [hw5, cell_set_ne _ _ _ _ _ (by omega), cell_set_ne _ _ _ _ _ (by omega), cell_set_ne _ _ _ _ _ (by omega)]; exact y3
      obtain ⟨q0, g0⟩ := tr5 0 (by omega)
      obtain ⟨q1, g1⟩ := tr5 1 (by omega)
      obtain ⟨q2, g2⟩ := tr5 2 (by omega)
      obtain ⟨q3, g3⟩ := tr5 3 (by omega)
      obtain ⟨v0, q0⟩ := Option.isSome_iff_exists.1 q0
      obtain ⟨v1, q1⟩ := Option.isSome_iff_exists.1 q1
      obtain ⟨v2, q2⟩ := Option.isSome_iff_exists.1 q2
      obtain ⟨v3, q3⟩ := Option.isSome_iff_exists.1 q3
      simp only [Nat.zero_add] at q0 q1 q2 q3 g0 g1 g2 g3
      have X5 := Box.mk x5
      clear hres hw5 tr4 tr5 x5 y0 y1 y2 y3 hK4 e1 e2 csyn tsyn xs hn1 c3' K1 X1 X2 X3 X4 C3 C4 Z3 HT HS HR WS WR
      go_wp2_with fail
      have r3 : ((((w5.setCell ⟨w.heap.size + 1 + 1 + 1, 0, none⟩ (.float .f64 m')).setCell ⟨w.heap.size + 1 + 1 + 1, 1, none⟩ (.float .f64 p')).setCell ⟨w.heap.size + 1 + 1 + 1, 2, none⟩ (.float .f64 d')).setCell ⟨w.heap.size + 1 + 1 + 1, 3, none⟩ (.float .f64 (ss 3))).cell? ⟨w.heap.size + 1 + 1 + 1, 3, none⟩ = some (.float .f64 (ss 3)) :=
        cell_set_eq _ (by rw [cell_set_ne _ _ _ _ _ (by omega), cell_set_ne _ _ _ _ _ (by omega), cell_set_ne _ _ _ _ _ (by omega)]; exact q3)
      have r2 : ((((w5.setCell ⟨w.heap.size + 1 + 1 + 1, 0, none⟩ (.float .f64 m')).setCell ⟨w.heap.size + 1 + 1 + 1, 1, none⟩ (.float .f64 p')).setCell ⟨w.heap.size + 1 + 1 + 1, 2, none⟩ (.float .f64 d')).setCell ⟨w.heap.size + 1 + 1 + 1, 3, none⟩ (.float .f64 (ss 3))).cell? ⟨w.heap.size + 1 + 1 + 1, 2, none⟩ = some (.float .f64 d') := by
        rw [cell_set_ne _ _ _ _ _ (by omega)]; exact cell_set_eq _ (by rw [cell_set_ne _ _ _ _ _ (by omega), cell_set_ne _ _ _ _ _ (by omega)]; exact q2)
      have r1 : ((((w5.setCell ⟨w.heap.size + 1 + 1 + 1, 0, none⟩ (.float .f64 m')).setCell ⟨w.heap.size + 1 + 1 + 1, 1, none⟩ (.float .f64 p')).setCell ⟨w.heap.size + 1 + 1 + 1, 2, none⟩ (.float .f64 d')).setCell ⟨w.heap.size + 1 + 1 + 1, 3, none⟩ (.float .f64 (ss 3))).cell? ⟨w.heap.size + 1 + 1 + 1, 1, none⟩ = some (.float .f64 p') := by
        rw [cell_set_ne _ _ _ _ _ (by omega), cell_set_ne _ _ _ _ _ (by omega)]; exact cell_set_eq _ (by rw [cell_set_ne _ _ _ _ _ (by omega)]; exact q1)
      have r0 : ((((w5.setCell ⟨w.heap.size + 1 + 1 + 1, 0, none⟩ (.float .f64 m')).setCell ⟨w.heap.size + 1 + 1 + 1, 1, none⟩ (.float .f64 p')).setCell ⟨w.heap.size + 1 + 1 + 1, 2, none⟩ (.float .f64 d')).setCell ⟨w.heap.size + 1 + 1 + 1, 3, none⟩ (.float .f64 (ss 3))).cell? ⟨w.heap.size + 1 + 1 + 1, 0, none⟩ = some (.float .f64 m') := by
        rw [cell_set_ne _ _ _ _ _ (by omega), cell_set_ne _ _ _ _ _ (by omega), cell_set_ne _ _ _ _ _ (by omega)]; exact cell_set_eq _ q0
      have xf : Ext w ((((w5.setCell ⟨w.heap.size + 1 + 1 + 1, 0, none⟩ (.float .f64 m')).setCell ⟨w.heap.size + 1 + 1 + 1, 1, none⟩ (.float .f64 p')).setCell ⟨w.heap.size + 1 + 1 + 1, 2, none⟩ (.float .f64 d')).setCell ⟨w.heap.size + 1 + 1 + 1, 3, none⟩ (.float .f64 (ss 3))) :=
        (((RowKit.Below.setCell X5.out (p := ⟨w.heap.size + 1 + 1 + 1, 0, none⟩) (by show w.heap.size ≤ w.heap.size + 1 + 1 + 1; omega) _).setCell (p := ⟨w.heap.size + 1 + 1 + 1, 1, none⟩) (by show w.heap.size ≤ w.heap.size + 1 + 1 + 1; omega) _).setCell (p := ⟨w.heap.size + 1 + 1 + 1, 2, none⟩) (by show w.heap.size ≤ w.heap.size + 1 + 1 + 1; omega) _).setCell (p := ⟨w.heap.size + 1 + 1 + 1, 3, none⟩) (by show w.heap.size ≤ w.heap.size + 1 + 1 + 1; omega) _
      clear q0 q1 q2 q3 g0 g1 g2 g3 z0 z1 z2 z3
      generalize ((((w5.setCell ⟨w.heap.size + 1 + 1 + 1, 0, none⟩ (.float .f64 m')).setCell ⟨w.heap.size + 1 + 1 + 1, 1, none⟩ (.float .f64 p')).setCell ⟨w.heap.size + 1 + 1 + 1, 2, none⟩ (.float .f64 d')).setCell ⟨w.heap.size + 1 + 1 + 1, 3, none⟩ (.float .f64 (ss 3))) = w6 at r0 r1 r2 r3 xf ⊢
      exact bodyPost_ret (v := .agg #[.float .f64 m', .float .f64 p', .float .f64 d', .float .f64 (ss 3)]) (by simp [results, Try.results22, go_sem, r0, r1, r2, r3]) rfl ⟨m', p', d', rfl, xf, HRES.out⟩
end Go.Proofs.Qxb6601308a.Ad
