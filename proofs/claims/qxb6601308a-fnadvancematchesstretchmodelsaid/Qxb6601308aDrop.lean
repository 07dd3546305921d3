/-
  THE PLAIN LINK: the model's indices into the lists, advance's lists that grow shorter; the cells of the steps. And the laws for one float operation of a region that does not draw.
-/
import Derived.Test.Qxb6601308aLook
namespace Go.Proofs.Qxb6601308a.Ad
set_option linter.unusedVariables false
open Go.ChangeShapes Go.WideShapes Go.ChangeAt Go.RowKit Rg
open Qxb6601308a.Fl (cl fmul fadd Box)

theorem wf_lt {l : List E0} (h : WfTo l l.length) : ∀ (d a : Nat), a + d + 1 < l.length → cycAt l a < cycAt l (a + d + 1)
  | 0, a, hl => (h.2.2 (a + 1) (by omega) hl).1
  | d + 1, a, hl => by
    have h1 := wf_lt h d a (by omega)
    have h2 := (h.2.2 (a + (d + 1) + 1) (by omega) hl).1
    have e : a + (d + 1) + 1 - 1 = a + d + 1 := by omega
    rw [e] at h2
    omega
theorem wf_le {l : List E0} (h : WfTo l l.length) {a b : Nat} (hab : a ≤ b) (hb : b < l.length) : cycAt l a ≤ cycAt l b := by
  by_cases e : a = b
  · subst e; exact Int.le_refl _
  · have := wf_lt h (b - a - 1) a (by omega)
    rw [show a + (b - a - 1) + 1 = b from by omega] at this
    omega
theorem wf_nn {l : List E0} (h : WfTo l l.length) {a : Nat} (ha : a < l.length) : 0 ≤ cycAt l a := by
  have := wf_le h (Nat.zero_le a) ha
  rw [h.2.1] at this; exact this

theorem hd_drop (l : List E0) (i : Nat) (hi : i < l.length) : hd ((toE l).drop i) = ⟨(cycAt l i).toNat, caAt l i, actAt l i⟩ := by
  have e : l[i]? = some (l.getD i ⟨0, 0, false⟩) := by simp [List.getElem?_eq_getElem hi]
  unfold hd
  rw [List.headD_eq_head?_getD, List.head?_drop]
  unfold toE
  rw [List.getElem?_map, e]
  rfl
theorem drop_len (l : List E0) (i : Nat) : ((toE l).drop i).length = l.length - i := by rw [List.length_drop, toE_length]
theorem second_drop {l : List E0} (h : WfTo l l.length) {i : Nat} (hi : i < l.length) : ((second ((toE l).drop i) : Nat) : Int) = nx l i := by
  unfold nx
  by_cases e : i + 1 < l.length
  · rw [second_tail (by rw [drop_len]; omega), List.tail_drop, hd_drop l (i + 1) e, if_pos e]
    have := wf_nn h e
    show (((cycAt l (i + 1)).toNat : Nat) : Int) = _
    omega
  · rw [second_one (by rw [drop_len]; omega), if_neg e]; rfl
theorem sp_of {l : List E0} (h : WfTo l l.length) {i t : Nat} (hi : i < l.length) (ht : t < 200) (hok : Ok t ((toE l).drop i)) : Sp l i t := by
  have h1 := hok.2.1
  rw [hd_drop l i hi] at h1
  have h1' : (cycAt l i).toNat ≤ t := h1
  have h2 := ok_second hok ht
  have h3 := second_drop h hi
  refine ⟨hi, fun k hk => ?_, fun k hk hkl => ?_⟩
  · have := wf_le h hk hi
    omega
  · have e : nx l i = cycAt l (i + 1) := by unfold nx; rw [if_pos (by omega)]
    have h5 := wf_le h (show i + 1 ≤ k by omega) hkl
    have h6 := (h.2.2 k (by omega) hkl).2
    exact ⟨by omega, by omega, h6⟩
theorem step_drop (l : List E0) (i n : Nat) (hi : i < l.length) : ∃ i', i' < l.length ∧ stepOn n ((toE l).drop i) = (toE l).drop i' := by
  unfold stepOn
  by_cases e : 1 < ((toE l).drop i).length ∧ second ((toE l).drop i) = n
  · rw [if_pos e, List.tail_drop]
    have := e.1
    rw [drop_len] at this
    exact ⟨i + 1, by omega, rfl⟩
  · rw [if_neg e]; exact ⟨i, hi, rfl⟩
theorem next_drop {l l' : List E0} (h : WfTo l l.length) (h' : WfTo l' l'.length) {i j : Nat} (hi : i < l.length) (hj : j < l'.length) :
    min (nx l i) (nx l' j) = ((nextOf ((toE l).drop i) ((toE l').drop j) : Nat) : Int) := by
  rw [← second_drop h hi, ← second_drop h' hj]; unfold nextOf; omega
theorem cells_drop {w : World} {b o : Nat} {l : List E0} (hr : RawAt w b o l) (h : WfTo l l.length) {i : Nat} (hi : i < l.length) :
    w.cell? ⟨b, o + i * 3, none⟩ = some (.int .i64 (((hd ((toE l).drop i)).cyc : Nat) : Int)) ∧ w.cell? ⟨b, o + i * 3 + 1, none⟩ = some (.float .f64 (hd ((toE l).drop i)).ca) ∧ w.cell? ⟨b, o + i * 3 + 2, none⟩ = some (.bool (hd ((toE l).drop i)).act) := by
  rw [hd_drop l i hi]
  obtain ⟨h0, h1, h2⟩ := raw_at hr hi
  refine ⟨?_, h1, h2⟩
  show _ = some (Value.int .i64 (((cycAt l i).toNat : Nat) : Int))
  have := wf_nn h hi
  rw [h0]; congr 2; omega

theorem kv_dec0 (gb : Nat) (ff dd : Nat → Nat) (x : Nat) : kv gb ff dd (3217 + x) = dd x := by
  unfold kv; rw [if_neg (by omega), if_neg (by omega), show 3217 + x - 3217 = x from by omega]
theorem kv_dec1 (gb : Nat) (ff dd : Nat → Nat) (x : Nat) : kv gb ff dd (3417 + x) = dd (200 + x) := by
  unfold kv; rw [if_neg (by omega), if_neg (by omega), show 3417 + x - 3217 = 200 + x from by omega]
theorem kv_from (gb : Nat) (ff dd : Nat → Nat) (a kk j : Nat) (ha : a < 4) (hk : kk ≤ 200) (hj : j < 3) : kv gb ff dd (1 + a * 804 + kk * 4 + j) = ff (a * 603 + kk * 3 + j) := by
  unfold kv
  rw [if_neg (by omega), if_pos (by omega)]
  unfold tv
  rw [if_neg (by omega), show (1 + a * 804 + kk * 4 + j - 1) / 4 * 3 + (1 + a * 804 + kk * 4 + j - 1) % 4 = a * 603 + kk * 3 + j from by omega]
/-- k cycles on, by the tables as they came in -/
theorem after_kv (gb : Nat) (ff dd : Nat → Nat) (kk : Nat) (hk : kk ≤ 200) (m p d sy : Option Nat) : afterC (fun i => cl (kv gb ff dd i)) kk m p d sy =
    (fadd (fmul m (cl (ff (kk * 3)))) (fmul sy (cl (ff (1809 + kk * 3)))),
     fadd (fadd (fmul m (cl (ff (kk * 3 + 1)))) (fmul p (cl (ff (603 + kk * 3 + 1))))) (fmul sy (cl (ff (1809 + kk * 3 + 1)))),
     fadd (fadd (fadd (fmul m (cl (ff (kk * 3 + 2)))) (fmul p (cl (ff (603 + kk * 3 + 2))))) (fmul d (cl (ff (1206 + kk * 3 + 2))))) (fmul sy (cl (ff (1809 + kk * 3 + 2))))) := by
  have a0 := kv_from gb ff dd 0 kk 0 (by omega) hk (by omega)
  have a1 := kv_from gb ff dd 0 kk 1 (by omega) hk (by omega)
  have a2 := kv_from gb ff dd 0 kk 2 (by omega) hk (by omega)
  have b1 := kv_from gb ff dd 1 kk 1 (by omega) hk (by omega)
  have b2 := kv_from gb ff dd 1 kk 2 (by omega) hk (by omega)
  have c2 := kv_from gb ff dd 2 kk 2 (by omega) hk (by omega)
  have d0 := kv_from gb ff dd 3 kk 0 (by omega) hk (by omega)
  have d1 := kv_from gb ff dd 3 kk 1 (by omega) hk (by omega)
  have d2 := kv_from gb ff dd 3 kk 2 (by omega) hk (by omega)
  simp only [Nat.zero_mul, Nat.one_mul, Nat.reduceMul, Nat.reduceAdd, Nat.add_zero, Nat.zero_add] at a0 a1 a2 b1 b2 c2 d0 d1 d2
  unfold afterC
  simp only []
  rw [a0, a1, a2, b1, b2, c2, d0, d1, d2]

theorem wpList_fmul {P : Program} {ops : Array Oper} {rest : List Oper} {o : Oper} {a : Act} {w : World} {Q : Exit → Act → World → Prop} (hgd : o.guard = none) (t t' : TypeId) (x y : Operand) (ho : o.op = .binOp .mul t x y t') (p q : Nat) (hx : a.eval x = .float .f64 p) (hy : a.eval y = .float .f64 q)
    (h : ∀ r n, Box (cl r = fmul (cl p) (cl q)) → wpList P ops Q rest (a.put o.dst (.float .f64 r)) (w.drewN n)) : wpList P ops Q (o :: rest) a w :=
  wpList_plain hgd fun _ hK => by
    obtain ⟨r, n, hr, hc⟩ := Fl.run_fmul (P := P) w t p q
    have e : (execOp a.eval o).run P w = .ok (.value (.float .f64 r)) (w.drewN n) := by
      unfold execOp
      simp only [ho, hx, hy, eqGuard, Bool.not_false, if_true, Sem.run_bind, Sem.run_pure, Result.andThen_ok, hr]
    unfold Oper.wp
    rw [e]
    exact hK _ _ (h r n ⟨hc⟩)
theorem wpList_fadd {P : Program} {ops : Array Oper} {rest : List Oper} {o : Oper} {a : Act} {w : World} {Q : Exit → Act → World → Prop} (hgd : o.guard = none) (t t' : TypeId) (x y : Operand) (ho : o.op = .binOp .add t x y t') (p q : Nat) (hx : a.eval x = .float .f64 p) (hy : a.eval y = .float .f64 q)
    (h : ∀ r n, Box (cl r = fadd (cl p) (cl q)) → wpList P ops Q rest (a.put o.dst (.float .f64 r)) (w.drewN n)) : wpList P ops Q (o :: rest) a w :=
  wpList_plain hgd fun _ hK => by
    obtain ⟨r, n, hr, hc⟩ := Fl.run_fadd (P := P) w t p q
    have e : (execOp a.eval o).run P w = .ok (.value (.float .f64 r)) (w.drewN n) := by
      unfold execOp
      simp only [ho, hx, hy, eqGuard, Bool.not_false, if_true, Sem.run_bind, Sem.run_pure, Result.andThen_ok, hr]
    unfold Oper.wp
    rw [e]
    exact hK _ _ (h r n ⟨hc⟩)

theorem idx40_0 (b : Nat) (w : World) : (Instr.indexAt 40 (.pointer (some ⟨b, 0, none⟩)) (.int .i64 0)).run Try.prog w = .ok (.pointer (some ⟨b, 0, none⟩)) w := by go_simp
theorem idx40_1 (b : Nat) (w : World) : (Instr.indexAt 40 (.pointer (some ⟨b, 0, none⟩)) (.int .i64 1)).run Try.prog w = .ok (.pointer (some ⟨b, 200, none⟩)) w := by go_simp

theorem four_new (w : World) (a b c d : Array Value) (t : TypeId) :
    (∀ i v, a[i]? = some v → ((((w.alloc (.cells a t)).alloc (.cells b t)).alloc (.cells c t)).alloc (.cells d t)).cell? ⟨w.heap.size, i, none⟩ = some v) ∧
    (∀ i v, b[i]? = some v → ((((w.alloc (.cells a t)).alloc (.cells b t)).alloc (.cells c t)).alloc (.cells d t)).cell? ⟨w.heap.size + 1, i, none⟩ = some v) ∧
    (∀ i v, c[i]? = some v → ((((w.alloc (.cells a t)).alloc (.cells b t)).alloc (.cells c t)).alloc (.cells d t)).cell? ⟨w.heap.size + 1 + 1, i, none⟩ = some v) ∧
    (∀ i v, d[i]? = some v → ((((w.alloc (.cells a t)).alloc (.cells b t)).alloc (.cells c t)).alloc (.cells d t)).cell? ⟨w.heap.size + 1 + 1 + 1, i, none⟩ = some v) ∧
    Ext w ((((w.alloc (.cells a t)).alloc (.cells b t)).alloc (.cells c t)).alloc (.cells d t)) := by
  have e : ∀ (x : World) (o : Obj), (x.alloc o).heap.size = x.heap.size + 1 := fun x o => by simp
  have c1 := fun i => cellsNew w a t i
  have c2 := fun i => cellsNew (w.alloc (.cells a t)) b t i
  have c3 := fun i => cellsNew ((w.alloc (.cells a t)).alloc (.cells b t)) c t i
  have c4 := fun i => cellsNew (((w.alloc (.cells a t)).alloc (.cells b t)).alloc (.cells c t)) d t i
  simp only [e] at c2 c3 c4
  have x4 := Ext.alloc (((w.alloc (.cells a t)).alloc (.cells b t)).alloc (.cells c t)) (.cells d t)
  have x3 := (Ext.alloc ((w.alloc (.cells a t)).alloc (.cells b t)) (.cells c t)).trans x4
  have x2 := (Ext.alloc (w.alloc (.cells a t)) (.cells b t)).trans x3
  have x1 := (Ext.alloc w (.cells a t)).trans x2
  exact ⟨fun i v h => x2.cell ((c1 i).trans h), fun i v h => x3.cell ((c2 i).trans h), fun i v h => x4.cell ((c3 i).trans h), fun i v h => (c4 i).trans h, x1⟩

/-- what stays through the model's loop: the boxes and the room for the result -/
def MR (w : World) (ff dd ss : Nat → Nat) (wr : World) : Prop :=
  Ext w wr ∧ w.heap.size + 4 ≤ wr.heap.size ∧ (∀ i, i < 2412 → wr.cell? ⟨w.heap.size, i, none⟩ = some (.float .f64 (ff i))) ∧ (∀ i, i < 400 → wr.cell? ⟨w.heap.size + 1, i, none⟩ = some (.float .f64 (dd i))) ∧
  (∀ i, i < 4 → wr.cell? ⟨w.heap.size + 1 + 1, i, none⟩ = some (.float .f64 (ss i))) ∧ wr.there (w.heap.size + 1 + 1 + 1) 0 4
theorem MR_ext {w wr w' : World} {ff dd ss : Nat → Nat} (h : MR w ff dd ss wr) (hx : Ext wr w') : MR w ff dd ss w' :=
  ⟨h.1.trans hx, Nat.le_trans h.2.1 hx.size, fun i hi => hx.cell (h.2.2.1 i hi), fun i hi => hx.cell (h.2.2.2.1 i hi), fun i hi => hx.cell (h.2.2.2.2.1 i hi), there_ext h.2.2.2.2.2 hx⟩
theorem MR_start (w : World) (F D S R : Array Value) (ff dd ss : Nat → Nat) (hF : ∀ i, i < 2412 → F[i]? = some (.float .f64 (ff i))) (hD : ∀ i, i < 400 → D[i]? = some (.float .f64 (dd i))) (hS : ∀ i, i < 4 → S[i]? = some (.float .f64 (ss i))) (hR : R.size = 4) :
    MR w ff dd ss ((((w.alloc (.cells F 38)).alloc (.cells D 40)).alloc (.cells S 41)).alloc (.cells R 41)) := by
  have e : ∀ (x : World) (o : Obj), (x.alloc o).heap.size = x.heap.size + 1 := fun x o => by simp
  have c1 := fun i => cellsNew w F 38 i
  have c2 := fun i => cellsNew (w.alloc (.cells F 38)) D 40 i
  have c3 := fun i => cellsNew ((w.alloc (.cells F 38)).alloc (.cells D 40)) S 41 i
  have t4 := there_made (((w.alloc (.cells F 38)).alloc (.cells D 40)).alloc (.cells S 41)) R 41
  rw [hR] at t4
  simp only [e] at c2 c3 t4
  have x4 := Ext.alloc (((w.alloc (.cells F 38)).alloc (.cells D 40)).alloc (.cells S 41)) (.cells R 41)
  have x3 := (Ext.alloc ((w.alloc (.cells F 38)).alloc (.cells D 40)) (.cells S 41)).trans x4
  have x2 := (Ext.alloc (w.alloc (.cells F 38)) (.cells D 40)).trans x3
  have x1 := (Ext.alloc w (.cells F 38)).trans x2
  refine ⟨x1, by simp only [e]; omega, fun i hi => ?_, fun i hi => ?_, fun i hi => ?_, t4⟩
  · exact Rg.Ext.cell x2 ((c1 i).trans (hF i hi))
  · exact Rg.Ext.cell x3 ((c2 i).trans (hD i hi))
  · exact Rg.Ext.cell x4 ((c3 i).trans (hS i hi))
end Go.Proofs.Qxb6601308a.Ad
