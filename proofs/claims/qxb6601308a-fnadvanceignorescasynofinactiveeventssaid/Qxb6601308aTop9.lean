import Derived.Test.Qxb6601308aRun

namespace Go.Proofs.Qxb6601308a.Ad
set_option linter.unusedVariables false
open Go.ChangeShapes Go.WideShapes Go.ChangeAt Go.RowKit Rg
open Qxb6601308a.Fl (cl fmul fadd Box nanB)
attribute [local go_sem] Fl.run_store_float
set_option maxHeartbeats 400000 in
theorem same24 (x y : Nat) (w : World) (h : cl x = cl y) : Calls Try.prog 24 #[.float .f64 x, .float .f64 y] w fun e w' => e = .returned (.bool true) ∧ w' = w := by
  cases hx : nanB x with
  | true =>
    have hy : nanB y = true := by
      cases hy : nanB y with
      | true => rfl
      | false => rw [Fl.cl_nan hx, Fl.cl_num hy] at h; cases h
    have o1 : FloatKind.f64.format.order x y = none := Fl.order_nan hx
    have o2 : FloatKind.f64.format.order x x = none := Fl.order_nan hx
    have o3 : FloatKind.f64.format.order y y = none := Fl.order_nan hy
    clear h hx hy
    go_enter Try.func24, Try.ntmps24
    go_wp2
    go_ret
    exact ⟨by simp, rfl⟩
  | false =>
    have hy : nanB y = false := by
      cases hy : nanB y with
      | false => rfl
      | true => rw [Fl.cl_num hx, Fl.cl_nan hy] at h; cases h
    rw [Fl.cl_num hx, Fl.cl_num hy] at h
    cases h
    have o1 : FloatKind.f64.format.order x x = some .eq := Fl.order_self hx
    clear hx hy
    go_enter Try.func24, Try.ntmps24
    go_wp2
    go_ret
    exact ⟨by simp, rfl⟩

/-- a slice of events, as it comes in -/
def IsEvs (w : World) (v : Value) (n : Nat) (l : List E0) : Prop :=
  l.length = n ∧ ∃ a c, v = .slice a n c ∧ (1 ≤ n → n ≤ c ∧ ∃ b o, a = some ⟨b, o, none⟩ ∧ RawAt w b o l)
theorem wf21_nil (a : Option Addr) (c : Nat) (w : World) : Calls Try.prog 21 #[.slice a 0 c] w fun e w' => ∃ n, w' = w.drewN n ∧ e = .returned (.bool false) := by
  go_enter Try.func21, Try.ntmps21
  go_wp2
  go_ret
  exact ⟨0, rfl, rfl⟩
/-- what wellFormedEvents says of whatever slice of at most 16384 events -/
theorem wfAny (v : Value) (n : Nat) (l : List E0) (w : World) (h : IsEvs w v n l) (hn : n ≤ 16384) :
    Calls Try.prog 21 #[v] w fun e w' => ∃ k, w' = w.drewN k ∧ (e = .returned (.bool false) ∨ e = .returned (.bool true) ∧ 1 ≤ n ∧ WfTo l l.length) := by
  obtain ⟨hl, a, c, rfl, hp⟩ := h
  by_cases h1 : 1 ≤ n
  · obtain ⟨hc, b, o, rfl, hr⟩ := hp h1
    subst hl
    refine (wf21 b o c l w hr hn hc).mono ?_
    rintro e w' ⟨k, hk, he⟩
    rcases he with h | h
    · exact ⟨k, hk, .inl h⟩
    · exact ⟨k, hk, .inr ⟨h.1, h1, h.2⟩⟩
  · obtain rfl : n = 0 := by omega
    refine (wf21_nil a c w).mono ?_
    rintro e w' ⟨k, hk, he⟩
    exact ⟨k, hk, .inl he⟩
theorem isEvs_ext {w w' : World} {v : Value} {n : Nat} {l : List E0} (h : IsEvs w v n l) (hx : Ext w w') : IsEvs w' v n l := by
  obtain ⟨hl, a, c, e, hp⟩ := h
  exact ⟨hl, a, c, e, fun h1 => let ⟨hc, b, o, ea, hr⟩ := hp h1; ⟨hc, b, o, ea, raw_ext hr hx⟩⟩

/-! ### the plain law: CaSyn of a quiet event is not read -/
def zqE (e : E) : E := if e.act then e else ⟨e.cyc, 0, e.act⟩
theorem zqE_cyc (e : E) : (zqE e).cyc = e.cyc := by unfold zqE; split <;> rfl
theorem zqE_act (e : E) : (zqE e).act = e.act := by unfold zqE; split <;> rfl
theorem toE_zq (l : List E0) : toE (zq l) = (toE l).map zqE := by
  unfold toE zq
  rw [List.map_map, List.map_map]
  refine List.map_congr_left fun e _ => ?_
  show (⟨(zq1 e).cyc.toNat, (zq1 e).ca, (zq1 e).act⟩ : E) = zqE ⟨e.cyc.toNat, e.ca, e.act⟩
  unfold zq1 zqE
  cases h : e.act <;> simp [h]
theorem hd_zq (l : List E) : hd (l.map zqE) = zqE (hd l) := by cases l <;> rfl
theorem second_zq : ∀ l : List E, second (l.map zqE) = second l
  | [] => rfl
  | [_] => rfl
  | _ :: b :: _ => zqE_cyc b
theorem stepOn_zq (t : Nat) (l : List E) : stepOn t (l.map zqE) = (stepOn t l).map zqE := by
  unfold stepOn
  rw [second_zq, List.length_map]
  split
  · rw [List.map_tail]
  · rfl
theorem moved_zq (K : Nat → Option Nat) (t nx : Nat) (s r : List E) (x : Option Nat × Option Nat × Option Nat) : moved K t nx (s.map zqE) (r.map zqE) x = moved K t nx s r x := by
  unfold moved
  rw [hd_zq, hd_zq, zqE_act, zqE_act]
  cases h1 : (hd s).act
  · rfl
  · cases h2 : (hd r).act
    · rfl
    · have e1 : zqE (hd s) = hd s := by unfold zqE; rw [h1]; rfl
      have e2 : zqE (hd r) = hd r := by unfold zqE; rw [h2]; rfl
      rw [e1, e2]
theorem adv_zq (K : Nat → Option Nat) : ∀ (n t : Nat) (s r : List E) (x : Option Nat × Option Nat × Option Nat), adv K n t (s.map zqE) (r.map zqE) x = adv K n t s r x
  | 0, _, _, _, _ => rfl
  | n + 1, t, s, r, x => by
    unfold adv
    have e : nextOf (s.map zqE) (r.map zqE) = nextOf s r := by unfold nextOf; rw [second_zq, second_zq]
    rw [e, stepOn_zq, stepOn_zq, moved_zq, adv_zq K n]
theorem wf_zq {l : List E0} (h : WfTo l l.length) : WfTo (zq l) (zq l).length := by
  refine ⟨by rw [zq_length]; exact h.1, by rw [zq_cyc]; exact h.2.1, fun i h1 h2 => ?_⟩
  rw [zq_length] at h2
  rw [zq_cyc, zq_cyc]; exact h.2.2 i h1 h2

/-! ### the steps of region 6 -/
theorem enter26 (args : Array Value) (w : World) : (callFunc 26 args).run Try.prog w = .ok (.enter 26 args) w := by kernel_rfl
theorem enter22 (args : Array Value) (w : World) : (callFunc 22 args).run Try.prog w = .ok (.enter 22 args) w := by kernel_rfl
theorem sxc26 {w0 : World} {W : Nat → Value → World → Prop} {d x ty : Nat} {pos : String} {af : Array Edge} (b o c : Nat) (l : List E0) (hraw : RawAt w0 b o l) (h1 : 1 ≤ l.length) (hl : l.length ≤ 16384) (hc : l.length ≤ c)
    (hx : ∀ z w, W x z w → z = .slice (some ⟨b, o, none⟩) l.length c) (hd : ∀ g w, CellsTo w g (zq l) l.length → W d (.slice (some ⟨g, 0, none⟩) l.length l.length) w) :
    StepX Try.prog w0 W ⟨some d, .call { callee := .value (.func 26), args := #[.tmp x], argTypes := #[42] }, ty, pos, af, none⟩ :=
  sx_call (f := 26) fun a w' hxx ho => by
    have e1 := hx _ _ (ho x (by simp [Op.operands, Call.operands]))
    refine ⟨#[.slice (some ⟨b, o, none⟩) l.length c], ?_, ?_⟩
    · have e : (#[] ++ (#[.tmp x] : Array Operand).map a.eval ++ #[]) = #[.slice (some ⟨b, o, none⟩) l.length c] := by simp [e1]
      rw [execOp_call_go, e]
      exact enter26 _ _
    · refine (zq26 b o c l w' (raw_ext hraw hxx) h1 hl hc).mono ?_
      rintro e w'' ⟨rfl, hx2, _, hcells⟩
      exact ⟨_, rfl, hx2, fun d hd' => by cases hd'; exact hd _ _ hcells⟩
theorem sxc22 {w0 : World} {W : Nat → Value → World → Prop} {d ty : Nat} {pos : String} {af : Array Edge} (gb : Nat) (F D S : Array Value) (ff dd ss : Nat → Nat) (sv rv : List E0)
    (hF : ∀ i, i < 2412 → F[i]? = some (.float .f64 (ff i))) (hD : ∀ i, i < 400 → D[i]? = some (.float .f64 (dd i))) (hS : ∀ i, i < 4 → S[i]? = some (.float .f64 (ss i)))
    (ls : sv.length ≤ 16384) (lr : rv.length ≤ 16384) (ws : WfTo sv sv.length) (wr : WfTo rv rv.length)
    (h39 : ∀ z w, W 39 z w → z = .float .f64 gb) (h40 : ∀ z w, W 40 z w → z = .agg F) (h41 : ∀ z w, W 41 z w → z = .agg D) (h42 : ∀ z w, W 42 z w → z = .agg S)
    (h44 : ∀ z w, W 44 z w → ∃ g, z = .slice (some ⟨g, 0, none⟩) sv.length sv.length ∧ CellsTo w g sv sv.length) (h46 : ∀ z w, W 46 z w → ∃ g, z = .slice (some ⟨g, 0, none⟩) rv.length rv.length ∧ CellsTo w g rv rv.length)
    (hd : ∀ w m p d', (cl m, cl p, cl d') = adv (fun i => cl (kv gb ff dd i)) 200 0 (toE sv) (toE rv) (cl (ss 0), cl (ss 1), cl (ss 2)) → W d (.agg #[.float .f64 m, .float .f64 p, .float .f64 d', .float .f64 (ss 3)]) w) :
    StepX Try.prog w0 W ⟨some d, .call { callee := .value (.func 22), args := #[.tmp 39, .tmp 40, .tmp 41, .tmp 42, .tmp 44, .tmp 46], argTypes := #[22, 38, 40, 41, 42, 42] }, ty, pos, af, none⟩ :=
  sx_call (f := 22) fun a w' hxx ho => by
    have e1 := h39 _ _ (ho 39 (by simp [Op.operands, Call.operands]))
    have e2 := h40 _ _ (ho 40 (by simp [Op.operands, Call.operands]))
    have e3 := h41 _ _ (ho 41 (by simp [Op.operands, Call.operands]))
    have e4 := h42 _ _ (ho 42 (by simp [Op.operands, Call.operands]))
    obtain ⟨g, e5, hc5⟩ := h44 _ _ (ho 44 (by simp [Op.operands, Call.operands]))
    obtain ⟨g', e6, hc6⟩ := h46 _ _ (ho 46 (by simp [Op.operands, Call.operands]))
    refine ⟨#[.float .f64 gb, .agg F, .agg D, .agg S, .slice (some ⟨g, 0, none⟩) sv.length sv.length, .slice (some ⟨g', 0, none⟩) rv.length rv.length], ?_, ?_⟩
    · have e : (#[] ++ (#[.tmp 39, .tmp 40, .tmp 41, .tmp 42, .tmp 44, .tmp 46] : Array Operand).map a.eval ++ #[]) = #[.float .f64 gb, .agg F, .agg D, .agg S, .slice (some ⟨g, 0, none⟩) sv.length sv.length, .slice (some ⟨g', 0, none⟩) rv.length rv.length] := by simp [e1, e2, e3, e4, e5, e6]
      rw [execOp_call_go, e]
      exact enter22 _ _
    · refine (run22 gb F D S ff dd ss g 0 sv.length g' 0 rv.length sv rv w' hF hD hS (rawAt_of_cellsTo hc5) (rawAt_of_cellsTo hc6) ls lr (Nat.le_refl _) (Nat.le_refl _) ws wr).mono ?_
      rintro e w'' ⟨m, p, d', rfl, hx2, hr⟩
      exact ⟨_, rfl, hx2, fun d hd' => by cases hd'; exact hd _ _ _ _ hr⟩
theorem sx_alloc41 {w0 : World} {W : Nat → Value → World → Prop} {d ty : Nat} {pos : String} {af : Array Edge} (hd : ∀ g w, w0.heap.size ≤ g → w.there g 0 4 → W d (.pointer (some ⟨g, 0, none⟩)) w) :
    StepX Try.prog w0 W ⟨some d, .alloc 41, ty, pos, af, none⟩ := by
  intro a w' hx ho K Q hK
  have e : (execOp a.eval ⟨some d, .alloc 41, ty, pos, af, none⟩).run Try.prog w' = .ok (.value (.pointer (some ⟨w'.heap.size, 0, none⟩))) (w'.alloc (.cells #[.float .f64 0, .float .f64 0, .float .f64 0, .float .f64 0] 41)) := by
    unfold execOp
    go_simp
  unfold Oper.wp
  rw [e, Oper.upon_value]
  exact hK _ _ (Ext.alloc _ _) (fun d' hd' => by cases hd'; exact hd _ _ hx.size (there_made w' #[.float .f64 0, .float .f64 0, .float .f64 0, .float .f64 0] 41))
theorem mono_cells (n : Nat) (l : List E0) : MonoP (fun v w => ∃ g, v = .slice (some ⟨g, 0, none⟩) n n ∧ CellsTo w g l n) := fun v w1 w2 hx ⟨g, e, h⟩ => ⟨g, e, fun i hi => ⟨hx.cell (h i hi).1, hx.cell (h i hi).2.1, hx.cell (h i hi).2.2⟩⟩
theorem mono_there (B : Nat) : MonoP (fun v w => ∃ g, v = .pointer (some ⟨g, 0, none⟩) ∧ B ≤ g ∧ w.there g 0 4) := fun v w1 w2 hx ⟨g, e, hg, h⟩ => ⟨g, e, hg, there_ext h hx⟩
theorem mono_const (p : Value → Prop) : MonoP (fun v _ => p v) := fun _ _ _ _ h => h

theorem loadAt_row {w : World} {g ty n e : Nat} {cs : Array Value} (hg : w.heap[g]? = some (.cells cs ty (0, 0))) (hu : Try.prog.underlying ty = some (.array n e)) (hi : (Try.prog.info? ty).map (·.size) = some cs.size) :
    (Instr.loadAt ty (.pointer (some ⟨g, 0, none⟩))).run Try.prog w = .ok (.agg cs) w := by
  simp only [Instr.loadAt, Instr.sureAddr, Sem.run_bind, Sem.run_pure, Result.andThen_ok]
  exact run_loadVar_row w g ty ty cs (0, 0) _ hg hu rfl hi
theorem forOutX_cons (p : Nat × (Value → World → Prop)) (l : Tbl) (a : Act) (w : World) (Q : Act → Prop) : ForOutX (p :: l) a w Q = ∀ v, p.2 v w → ForOutX l (a.put (some p.1) v) w Q := rfl
theorem outs9 {a0 : Act} {w' : World} {Q : Act → Prop} {x39 x40 x41 x42 x43 x45 : Value} {p44 p46 : Value → World → Prop} {t B : Nat} {R : Nat → Nat → Nat → Prop}
    (h : ∀ v44 v46 m p d g, R m p d → B ≤ g → w'.there g 0 4 → Q ((((((((((a0.put (some 39) x39).put (some 40) x40).put (some 41) x41).put (some 42) x42).put (some 43) x43).put (some 44) v44).put (some 45) x45).put (some 46) v46).put (some 47) (.agg #[.float .f64 m, .float .f64 p, .float .f64 d, .float .f64 t])).put (some 14) (.pointer (some ⟨g, 0, none⟩)))) :
    ForOutX [(39, ExX x39), (40, ExX x40), (41, ExX x41), (42, ExX x42), (43, ExX x43), (44, p44), (45, ExX x45), (46, p46), (47, fun v _ => ∃ m p d, v = .agg #[.float .f64 m, .float .f64 p, .float .f64 d, .float .f64 t] ∧ R m p d), (14, fun v w => ∃ g, v = .pointer (some ⟨g, 0, none⟩) ∧ B ≤ g ∧ w.there g 0 4)] a0 w' Q := by
  rw [forOutX_ex, forOutX_ex, forOutX_ex, forOutX_ex, forOutX_ex, forOutX_cons]
  intro v44 _
  rw [forOutX_ex, forOutX_cons]
  intro v46 _
  rw [forOutX_cons]
  intro v47 h47
  obtain ⟨m2, p2, d2, e47, hr2⟩ := h47
  rw [e47, forOutX_cons]
  intro v14 h14
  obtain ⟨g, e14, hg, hth⟩ := h14
  rw [e14, forOutX_nil]
  exact h v44 v46 m2 p2 d2 g hr2 hg hth

/-- the four numbers of a synapse, by index -/
def four (a b c d : Nat) : Nat → Nat
  | 0 => a
  | 1 => b
  | 2 => c
  | _ => d
/-- two rows of four whose numbers are alike up to which NaN -/
def Alike4 (w : World) (b g : Nat) (x y : Nat → Nat) : Prop := ∀ k, k < 4 → w.cell? ⟨b, k, none⟩ = some (.float .f64 (x k)) ∧ w.cell? ⟨g, k, none⟩ = some (.float .f64 (y k)) ∧ cl (x k) = cl (y k)
theorem alike4 {w : World} {b g m1 p1 d1 m2 p2 d2 t : Nat} (h1 : ∀ i v, (#[.float .f64 m1, .float .f64 p1, .float .f64 d1, .float .f64 t] : Array Value)[i]? = some v → w.cell? ⟨b, i, none⟩ = some v)
    (h2 : w.rangeAt g 0 [.float .f64 m2, .float .f64 p2, .float .f64 d2, .float .f64 t]) (h : ((cl m1, cl p1, cl d1) : Option Nat × Option Nat × Option Nat) = (cl m2, cl p2, cl d2)) : Alike4 w b g (four m1 p1 d1 t) (four m2 p2 d2 t) := by
  intro k hk
  have r : ∀ j v, ([.float .f64 m2, .float .f64 p2, .float .f64 d2, .float .f64 t] : List Value)[j]? = some v → w.cell? ⟨g, j, none⟩ = some v := fun j v hv => by
    have := h2 j v hv
    rwa [Nat.zero_add] at this
  simp only [Prod.mk.injEq] at h
  obtain rfl | rfl | rfl | rfl : k = 0 ∨ k = 1 ∨ k = 2 ∨ k = 3 := by omega
  · exact ⟨h1 0 _ rfl, r 0 _ rfl, h.1⟩
  · exact ⟨h1 1 _ rfl, r 1 _ rfl, h.2.1⟩
  · exact ⟨h1 2 _ rfl, r 2 _ rfl, h.2.2⟩
  · exact ⟨h1 3 _ rfl, r 3 _ rfl, rfl⟩

theorem three_new (w : World) (o1 o2 o3 : Obj) :
    (((w.alloc o1).alloc o2).alloc o3).heap[w.heap.size]? = some o1 ∧ (((w.alloc o1).alloc o2).alloc o3).heap[w.heap.size + 1]? = some o2 ∧
    (((w.alloc o1).alloc o2).alloc o3).heap[w.heap.size + 1 + 1]? = some o3 ∧ Ext w (((w.alloc o1).alloc o2).alloc o3) := by
  have e : ∀ (x : World) (o : Obj), (x.alloc o).heap.size = x.heap.size + 1 := fun x o => by simp
  have l1 := heap_alloc_last w o1
  have l2 := heap_alloc_last (w.alloc o1) o2
  have l3 := heap_alloc_last ((w.alloc o1).alloc o2) o3
  have x3 := Ext.alloc ((w.alloc o1).alloc o2) o3
  have x2 := (Ext.alloc (w.alloc o1) o2).trans x3
  have x1 := (Ext.alloc w o1).trans x2
  simp only [e] at l2 l3
  exact ⟨ext_blk x2 l1, ext_blk x3 l2, l3, x1⟩

set_option maxRecDepth 100000 in
set_option maxHeartbeats 400000 in
theorem top9 (gb : Nat) (F D S : Array Value) (ff dd ss : Nat → Nat) (a4 a5 : Option Addr) (n4 c4 n5 c5 : Nat) (sv rv : List E0) (w : World) (hF : ∀ i, i < 2412 → F[i]? = some (.float .f64 (ff i))) (hD : ∀ i, i < 400 → D[i]? = some (.float .f64 (dd i))) (hS : ∀ i, i < 4 → S[i]? = some (.float .f64 (ss i)))
    (sF : F.size = 2412) (sD : D.size = 400) (sS : S.size = 4) (hs : IsEvs w (.slice a4 n4 c4) n4 sv) (hr : IsEvs w (.slice a5 n5 c5) n5 rv) :
    Calls Try.prog 9 #[.float .f64 gb, .agg F, .agg D, .agg S, .slice a4 n4 c4, .slice a5 n5 c5] w fun e w' => e = .returned (.bool true) ∧ Below w.heap.size w w' := by
  have HF := Box.mk hF
  have HD := Box.mk hD
  have HSS := Box.mk hS
  have HS := Box.mk hs
  have HR := Box.mk hr
  have X3 := Box.mk (((Ext.alloc w (.cells F 38)).trans (Ext.alloc _ (.cells D 40))).trans (Ext.alloc _ (.cells S 41)))
  clear hF hD hS hs hr
  by_cases b4 : n4 ≤ 16384
  · have d4 : decide ((16384 : Int) < (n4 : Int)) = false := by simp; omega
    by_cases b5 : n5 ≤ 16384
    · have d5 : decide ((16384 : Int) < (n5 : Int)) = false := by simp; omega
      go_enter Try.func9, Try.ntmps9
      go_wp2_with fail
      refine (wfAny _ n4 sv _ (isEvs_ext HS.out X3.out) b4).mono ?_
      rintro e w1 ⟨k1, rfl, rfl | ⟨rfl, l4, wf4⟩⟩
      · go_wp2_with fail
        go_ret
        exact ⟨rfl, X3.out.trans (Ext.drewN _ _)⟩
      have W4 := Box.mk wf4
      clear wf4
      go_wp2_with fail
      refine (wfAny _ n5 rv _ (isEvs_ext HR.out (X3.out.trans (Ext.drewN _ _))) b5).mono ?_
      rintro e w1 ⟨k2, rfl, rfl | ⟨rfl, l5, wf5⟩⟩
      · go_wp2_with fail
        go_ret
        exact ⟨rfl, X3.out.trans (Ext.drewN _ _)⟩
      have W5 := Box.mk wf5
      clear wf5
      go_upto_region 5 with fail
      obtain ⟨b38, b40, b41, _⟩ := three_new w (.cells F 38) (.cells D 40) (.cells S 41)
      obtain ⟨X, hX⟩ : ∃ X, X = (((w.alloc (.cells F 38)).alloc (.cells D 40)).alloc (.cells S 41)).drewN (k1 + k2) := ⟨_, rfl⟩
      rw [← hX]
      have B38 : Box (X.heap[w.heap.size]? = some (.cells F 38)) := ⟨by rw [hX]; exact b38⟩
      have B40 : Box (X.heap[w.heap.size + 1]? = some (.cells D 40)) := ⟨by rw [hX]; exact b40⟩
      have B41 : Box (X.heap[w.heap.size + 1 + 1]? = some (.cells S 41)) := ⟨by rw [hX]; exact b41⟩
      have XX : Box (Ext w X) := ⟨by rw [hX]; exact X3.out.trans (Ext.drewN _ _)⟩
      have I38 : Box ((Try.prog.info? 38).map (·.size) = some F.size) := ⟨by rw [sF]; kernel_rfl⟩
      have I40 : Box ((Try.prog.info? 40).map (·.size) = some D.size) := ⟨by rw [sD]; kernel_rfl⟩
      have I41 : Box ((Try.prog.info? 41).map (·.size) = some S.size) := ⟨by rw [sS]; kernel_rfl⟩
      clear hX b38 b40 b41 sF sD sS X3 d4 d5
      obtain ⟨rfl, a, c, ev, hp⟩ := HS.out
      cases ev
      obtain ⟨hc4, bs, os, rfl, hraw4⟩ := hp l4
      obtain ⟨rfl, a, c, ev, hp'⟩ := HR.out
      cases ev
      obtain ⟨hc5, br, or, rfl, hraw5⟩ := hp' l5
      have RS := Box.mk hraw4
      have RR := Box.mk hraw5
      clear hp hp' hraw4 hraw5 HS HR
      go_wp2_with (first
        | (refine wpList_load_row (by rfl) 38 (.tmp 7) (by rfl) _ (by rfl) 38 F _ _ B38.out Try.underlying38 (by rfl) I38.out ?_)
        | (refine wpList_load_row (by rfl) 40 (.tmp 8) (by rfl) _ (by rfl) 40 D _ _ B40.out Try.underlying40 (by rfl) I40.out ?_)
        | (refine wpList_load_row (by rfl) 41 (.tmp 9) (by rfl) _ (by rfl) 41 S _ _ B41.out Try.underlying41 (by rfl) I41.out ?_))
      refine (run22 gb F D S ff dd ss bs os c4 br or c5 sv rv X HF.out HD.out HSS.out (raw_ext RS.out XX.out) (raw_ext RR.out XX.out) b4 b5 hc4 hc5 W4.out W5.out).mono ?_
      rintro e w1 ⟨m1, p1, d1, rfl, hx1, hr1⟩
      have X1 := Box.mk hx1
      have R1 := Box.mk hr1
      clear hx1 hr1
      go_upto_region 6 with fail
      obtain ⟨Y, hY⟩ : ∃ Y, Y = w1.alloc (.cells #[.float .f64 m1, .float .f64 p1, .float .f64 d1, .float .f64 (ss 3)] 41) := ⟨_, rfl⟩
      rw [← hY]
      have XY : Box (Ext X Y) := ⟨by rw [hY]; exact X1.out.trans (Ext.alloc _ _)⟩
      have CY : Box (∀ i v, (#[.float .f64 m1, .float .f64 p1, .float .f64 d1, .float .f64 (ss 3)] : Array Value)[i]? = some v → Y.cell? ⟨w1.heap.size, i, none⟩ = some v) := ⟨fun i v h => by rw [hY]; exact (cellsNew w1 _ 41 i).trans h⟩
      have hYs : w1.heap.size < Y.heap.size := by rw [hY]; simp
      have L38 : Box (∀ w', Ext Y w' → (Instr.loadAt 38 (.pointer (some ⟨w.heap.size, 0, none⟩))).run Try.prog w' = .ok (.agg F) w') := ⟨fun w' hx => loadAt_row (ext_blk (XY.out.trans hx) B38.out) Try.underlying38 I38.out⟩
      have L40 : Box (∀ w', Ext Y w' → (Instr.loadAt 40 (.pointer (some ⟨w.heap.size + 1, 0, none⟩))).run Try.prog w' = .ok (.agg D) w') := ⟨fun w' hx => loadAt_row (ext_blk (XY.out.trans hx) B40.out) Try.underlying40 I40.out⟩
      have L41 : Box (∀ w', Ext Y w' → (Instr.loadAt 41 (.pointer (some ⟨w.heap.size + 1 + 1, 0, none⟩))).run Try.prog w' = .ok (.agg S) w') := ⟨fun w' hx => loadAt_row (ext_blk (XY.out.trans hx) B41.out) Try.underlying41 I41.out⟩
      replace RS := Box.mk (raw_ext RS.out (XX.out.trans XY.out))
      replace RR := Box.mk (raw_ext RR.out (XX.out.trans XY.out))
      clear hY B38 B40 B41 I38 I40 I41
      refine wp_region_litX [(39, ExX (.float .f64 gb)), (40, ExX (.agg F)), (41, ExX (.agg D)), (42, ExX (.agg S)), (43, ExX (.slice (some ⟨bs, os, none⟩) sv.length c4)), (44, fun v w => ∃ g, v = .slice (some ⟨g, 0, none⟩) sv.length sv.length ∧ CellsTo w g (zq sv) sv.length), (45, ExX (.slice (some ⟨br, or, none⟩) rv.length c5)), (46, fun v w => ∃ g, v = .slice (some ⟨g, 0, none⟩) rv.length rv.length ∧ CellsTo w g (zq rv) rv.length), (47, fun v _ => ∃ m p d, v = .agg #[.float .f64 m, .float .f64 p, .float .f64 d, .float .f64 (ss 3)] ∧ (cl m, cl p, cl d) = adv (fun i => cl (kv gb ff dd i)) 200 0 (toE (zq sv)) (toE (zq rv)) (cl (ss 0), cl (ss 1), cl (ss 2))), (14, fun v w => ∃ g, v = .pointer (some ⟨g, 0, none⟩) ∧ Y.heap.size ≤ g ∧ w.there g 0 4)] [(0, ExX (.float .f64 gb)), (7, ExX (.pointer (some ⟨w.heap.size, 0, none⟩))), (8, ExX (.pointer (some ⟨w.heap.size + 1, 0, none⟩))), (9, ExX (.pointer (some ⟨w.heap.size + 1 + 1, 0, none⟩))), (4, ExX (.slice (some ⟨bs, os, none⟩) sv.length c4)), (5, ExX (.slice (some ⟨br, or, none⟩) rv.length c5))] 60 (by rfl) rfl (by kernel_rfl) (by kernel_rfl) (by kernel_rfl) (by kernel_rfl) (by rfl) (by rfl) ⟨mono_ex _, mono_ex _, mono_ex _, mono_ex _, mono_ex _, mono_cells _ _, mono_ex _, mono_cells _ _, mono_const _, mono_there _, trivial⟩ ⟨mono_ex _, mono_ex _, mono_ex _, mono_ex _, mono_ex _, mono_ex _, trivial⟩ ?hin ?hs ?post
      case hin => simp [ExX, Act.eval]
      case hs =>
        refine stepsX_cons (sx_move (fun _ _ h => h)) ?_
        refine stepsX_cons (sx_load (fun _ _ h => h) L38.out (fun _ => rfl)) ?_
        refine stepsX_cons (sx_load (fun _ _ h => h) L40.out (fun _ => rfl)) ?_
        refine stepsX_cons (sx_load (fun _ _ h => h) L41.out (fun _ => rfl)) ?_
        refine stepsX_cons (sx_move (fun _ _ h => h)) ?_
        refine stepsX_cons (sxc26 bs os c4 sv RS.out l4 b4 hc4 (fun _ _ h => h) (fun g w h => ⟨g, rfl, h⟩)) ?_
        refine stepsX_cons (sx_move (fun _ _ h => h)) ?_
        refine stepsX_cons (sxc26 br or c5 rv RR.out l5 b5 hc5 (fun _ _ h => h) (fun g w h => ⟨g, rfl, h⟩)) ?_
        refine stepsX_cons (sxc22 gb F D S ff dd ss (zq sv) (zq rv) HF.out HD.out HSS.out (by rw [zq_length]; exact b4) (by rw [zq_length]; exact b5) (wf_zq W4.out) (wf_zq W5.out) (fun _ _ h => h) (fun _ _ h => h) (fun _ _ h => h) (fun _ _ h => h) (fun z w h => by rw [zq_length]; exact h) (fun z w h => by rw [zq_length]; exact h) (fun w m p d h => ⟨m, p, d, rfl, h⟩)) ?_
        refine stepsX_cons (sx_alloc41 (fun g w h1 h2 => ⟨g, rfl, h1, h2⟩)) ?_
        exact trivial
      case post =>
        intro w' hx'
        refine outs9 (R := fun m p d => (cl m, cl p, cl d) = adv (fun i => cl (kv gb ff dd i)) 200 0 (toE (zq sv)) (toE (zq rv)) (cl (ss 0), cl (ss 1), cl (ss 2))) ?_
        intro v44 v46 m2 p2 d2 g hr2 hg hth
        simp only [Act.put, List.setIfInBounds_toArray, List.set_cons_succ, List.set_cons_zero]
        refine wp_store_mid 41 (.tmp 14) (.tmp 47) rfl g 0 #[.float .f64 m2, .float .f64 p2, .float .f64 d2, .float .f64 (ss 3)] rfl rfl hth (by kernel_rfl) (by simp [Value.oneCell']) ?_
        have hrng := World.rangeAt_setCells_same w' g 0 [.float .f64 m2, .float .f64 p2, .float .f64 d2, .float .f64 (ss 3)] hth
        have hgne : w1.heap.size ≠ g := by omega
        have hold : ∀ i v, (#[.float .f64 m1, .float .f64 p1, .float .f64 d1, .float .f64 (ss 3)] : Array Value)[i]? = some v → (w'.setCells g 0 [.float .f64 m2, .float .f64 p2, .float .f64 d2, .float .f64 (ss 3)]).cell? ⟨w1.heap.size, i, none⟩ = some v := fun i v h => by
          rw [World.cell?_setCells_out _ _ _ w' ⟨w1.heap.size, i, none⟩ (fun e _ => absurd e hgne)]
          exact hx'.cell (CY.out i v h)
        have HR : Box (((cl m1, cl p1, cl d1) : Option Nat × Option Nat × Option Nat) = (cl m2, cl p2, cl d2)) := ⟨by rw [R1.out, hr2, toE_zq, toE_zq, adv_zq]⟩
        have HN : Box (Alike4 (w'.setCells g 0 [.float .f64 m2, .float .f64 p2, .float .f64 d2, .float .f64 (ss 3)]) w1.heap.size g (four m1 p1 d1 (ss 3)) (four m2 p2 d2 (ss 3)) ∧ Ext w (w'.setCells g 0 [.float .f64 m2, .float .f64 p2, .float .f64 d2, .float .f64 (ss 3)])) := ⟨alike4 hold hrng HR.out,
          below_setCells g (by have := (XX.out.trans XY.out).size; omega) _ _ _ ((XX.out.trans XY.out).trans hx')⟩
        simp only
        generalize w'.setCells g 0 [.float .f64 m2, .float .f64 p2, .float .f64 d2, .float .f64 (ss 3)] = w7 at HN ⊢
        clear hrng hgne hold HR hth hr2 hx' RS RR L38 L40 L41 CY XY XX X1 R1 W4 W5 HF HD HSS hg hYs
        go_wp2
        generalize four m1 p1 d1 (ss 3) = x at HN
        generalize four m2 p2 d2 (ss 3) = y at HN
        go_loopg [15] 4 (fun gk v15 wq => ∃ k nd : Nat, v15 = .int .i64 k ∧ k ≤ 4 ∧ gk + k = 4 ∧ wq = w7.drewN nd)
        case atStart => exact ⟨0, 0, rfl, by omega, rfl, rfl⟩
        case round =>
          obtain ⟨k, nd, rfl, hk, hgk, hwq⟩ := hrel
          have HQ := Box.mk hwq
          clear hwq
          by_cases hlt : k < 4
          · obtain ⟨q1, q2, hcl⟩ : wr.cell? ⟨w1.heap.size, k, none⟩ = some (.float .f64 (x k)) ∧ wr.cell? ⟨g, k, none⟩ = some (.float .f64 (y k)) ∧ cl (x k) = cl (y k) := by rw [HQ.out]; exact HN.out.1 k hlt
            have HC := Box.mk hcl
            clear hcl
            have i0 : (0 : Int) ≤ (k : Int) := by omega
            have i1 : (k : Int) < 4 := by omega
            go_wp2
            go_quiet ((go_at_call 24; exact Calls.quiet_of_same (same24 _ _ _ HC.out)))
            go_wp2
            go_roundg (4 - (k + 1))
            case measure => omega
            case rel => exact ⟨k + 1, nd + nq, by go_num, by omega, by omega, by rw [HQ.out, World.drewN_drewN]⟩
          · go_wp2
            go_ret
            exact ⟨rfl, by rw [HQ.out]; exact HN.out.2.trans (Ext.drewN _ _)⟩
    · go_enter Try.func9, Try.ntmps9
      go_wp2_with fail
      go_ret
      exact ⟨rfl, X3.out⟩
  · go_enter Try.func9, Try.ntmps9
    go_wp2_with fail
    go_ret
    exact ⟨rfl, X3.out⟩
end Go.Proofs.Qxb6601308a.Ad
