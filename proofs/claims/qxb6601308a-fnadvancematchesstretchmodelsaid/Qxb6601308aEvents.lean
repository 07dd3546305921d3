import Derived.Test.Qxb6601308aWf
import Derived.Test.Qxb6601308aRegionX
import Derived.Deep.MidRow
import Derived.Laws.MakeOwn
import Derived.BigCall

namespace Go.Proofs.Qxb6601308a.Ad
set_option linter.unusedVariables false
open Go.ChangeShapes Go.WideShapes Go.ChangeAt Go.RowKit Rg
open Qxb6601308a.Fl (cl fmul fadd Box)
attribute [local go_sem] Fl.run_store_float
theorem fld49_0 (b o : Nat) (w : World) : (Instr.fieldAt 49 (.pointer (some ⟨b, o, none⟩)) 0).run Try.prog w = .ok (.pointer (some ⟨b, o, none⟩)) w := by go_simp
theorem fld49_1 (b o : Nat) (w : World) : (Instr.fieldAt 49 (.pointer (some ⟨b, o, none⟩)) 1).run Try.prog w = .ok (.pointer (some ⟨b, o + 1, none⟩)) w := by go_simp
theorem fld49_2 (b o : Nat) (w : World) : (Instr.fieldAt 49 (.pointer (some ⟨b, o, none⟩)) 2).run Try.prog w = .ok (.pointer (some ⟨b, o + 2, none⟩)) w := by go_simp
theorem idx42 (b o n c i : Nat) (h : i < n) (w : World) : (Instr.indexAt 42 (.slice (some ⟨b, o, none⟩) n c) (.int .i64 (i : Nat))).run Try.prog w = .ok (.pointer (some ⟨b, o + i * 3, none⟩)) w := by
  go_simp
theorem idx58 (b n c i : Nat) (h : i < n) (w : World) : (Instr.indexAt 58 (.slice (some ⟨b, 0, none⟩) n c) (.int .i64 (i : Nat))).run Try.prog w = .ok (.pointer (some ⟨b, i * 3, none⟩)) w := by
  go_simp
theorem ldf0 {w : World} {a : Addr} {r : Nat} (h : w.cell? a = some (.float .f64 r)) : (Instr.loadAt 22 (.pointer (some a))).run Try.prog w = .ok (.float .f64 r) w := by go_simp
theorem ldi0 {w : World} {a : Addr} {r : Int} (h : w.cell? a = some (.int .i64 r)) : (Instr.loadAt 3 (.pointer (some a))).run Try.prog w = .ok (.int .i64 r) w := by go_simp
theorem ldb0 {w : World} {a : Addr} {r : Bool} (h : w.cell? a = some (.bool r)) : (Instr.loadAt 4 (.pointer (some a))).run Try.prog w = .ok (.bool r) w := by go_simp

theorem mk39 (c : Int) (f : Nat) (b : Bool) (w : World) : Calls Try.prog 39 #[.int .i64 c, .float .f64 f, .bool b] w fun e w' => e = .returned (.agg #[.int .i64 c, .float .f64 f, .bool b]) ∧ w' = w.alloc (.cells #[.int .i64 c, .float .f64 f, .bool b] 66) := by
  go_enter Try.func39, Try.ntmps39
  go_wp2
  exact bodyPost_ret (v := .agg #[.int .i64 c, .float .f64 f, .bool b]) (by simp [results, Try.results39, go_sem]) rfl ⟨rfl, rfl⟩

theorem enter39 (args : Array Value) (w : World) : (callFunc 39 args).run Try.prog w = .ok (.enter 39 args) w := by kernel_rfl
theorem call31 {w0 : World} {W : Nat → Value → World → Prop} {ty : Nat} {pos : String} {af : Array Edge} (c : Int) (f : Nat) (b : Bool)
    (h1 : ∀ z w, W 20 z w → z = .int .i64 c) (h2 : ∀ z w, W 25 z w → z = .float .f64 f) (h3 : ∀ z w, W 30 z w → z = .bool b) (hd : ∀ w, W 31 (.agg #[.int .i64 c, .float .f64 f, .bool b]) w) :
    StepX Try.prog w0 W ⟨some 31, .call { callee := .value (.func 39), args := #[.tmp 20, .tmp 25, .tmp 30], argTypes := #[3, 22, 4] }, ty, pos, af, none⟩ :=
  sx_call (f := 39) fun a w' hx ho => by
    have e1 := h1 _ _ (ho 20 (by simp [Op.operands, Call.operands]))
    have e2 := h2 _ _ (ho 25 (by simp [Op.operands, Call.operands]))
    have e3 := h3 _ _ (ho 30 (by simp [Op.operands, Call.operands]))
    refine ⟨#[.int .i64 c, .float .f64 f, .bool b], ?_, ?_⟩
    · have e : (#[] ++ (#[.tmp 20, .tmp 25, .tmp 30] : Array Operand).map a.eval ++ #[]) = #[.int .i64 c, .float .f64 f, .bool b] := by simp [e1, e2, e3]
      rw [execOp_call_go, e]
      exact enter39 _ _
    · refine (mk39 c f b w').mono ?_
      rintro e w'' ⟨rfl, rfl⟩
      exact ⟨_, rfl, Ext.alloc _ _, fun d hd' => by cases hd'; exact hd _⟩
/-- as many events as k lie in the new row -/
def CellsTo (w : World) (g : Nat) (l : List E0) (k : Nat) : Prop := ∀ i, i < k → w.cell? ⟨g, i * 3, none⟩ = some (.int .i64 (cycAt l i)) ∧ w.cell? ⟨g, i * 3 + 1, none⟩ = some (.float .f64 (caAt l i)) ∧ w.cell? ⟨g, i * 3 + 2, none⟩ = some (.bool (actAt l i))
theorem rawAt_of_cellsTo {w : World} {g : Nat} {l : List E0} (h : CellsTo w g l l.length) : RawAt w g 0 l := by
  intro i e he
  have hi : i < l.length := by
    rcases Nat.lt_or_ge i l.length with h | h
    · exact h
    · rw [List.getElem?_eq_none h] at he; cases he
  have e1 : l.getD i ⟨0, 0, false⟩ = e := by simp [he]
  have := h i hi
  unfold cycAt caAt actAt at this
  rw [e1] at this
  simpa using this
theorem there_ext {w w' : World} {b o n : Nat} (h : w.there b o n) (hx : Ext w w') : w'.there b o n := fun j hj => by
  obtain ⟨h1, h2⟩ := h j hj
  obtain ⟨u, hu⟩ := Option.isSome_iff_exists.1 h1
  have hb := World.block_lt_of_cell? w _ hu
  exact ⟨by rw [hx.cell hu]; rfl, by rw [RowKit.Below.frozen hx hb]; exact h2⟩
theorem there_sub {w : World} {b o n o' n' : Nat} (h : w.there b o n) (h1 : o ≤ o') (h2 : o' + n' ≤ o + n) : w.there b o' n' := fun j hj => by
  have := h (o' - o + j) (by omega)
  rwa [show o + (o' - o + j) = o' + j from by omega] at this
theorem there_made (w : World) (C : Array Value) (t : TypeId) : (w.alloc (.cells C t)).there w.heap.size 0 C.size := fun j hj => by
  have hc : (w.alloc (.cells C t)).cell? ⟨w.heap.size, 0 + j, none⟩ = C[0 + j]? := cell_of_row _ _ _ C t (0, 0) (by show (w.heap.push _)[w.heap.size]? = _; simp)
  refine ⟨by rw [hc, Array.getElem?_eq_getElem (by omega)]; rfl, World.frozen?_alloc_new ..⟩
theorem size_setCells (b : Nat) : ∀ (vs : List Value) (o : Nat) (w : World), (w.setCells b o vs).heap.size = w.heap.size
  | [], _, _ => rfl
  | v :: r, o, w => by rw [World.setCells, size_setCells b r (o + 1)]; simp
theorem below_setCells {B : Nat} {a : World} (b : Nat) (hb : B ≤ b) : ∀ (vs : List Value) (o : Nat) (w : World), RowKit.Below B a w → RowKit.Below B a (w.setCells b o vs)
  | [], _, _, h => h
  | v :: r, o, w, h => below_setCells b hb r (o + 1) _ (RowKit.Below.setCell h (p := ⟨b, o, none⟩) hb v)

set_option maxRecDepth 100000 in
set_option maxHeartbeats 1000000 in
theorem te31 (b o c : Nat) (l : List E0) (w : World) (h : RawAt w b o l) (h1 : 1 ≤ l.length) (hl : l.length ≤ 16384) (hc : l.length ≤ c) :
    Calls Try.prog 31 #[.slice (some ⟨b, o, none⟩) l.length c] w fun e w' => e = .returned (.slice (some ⟨w.heap.size, 0, none⟩) l.length l.length) ∧ Ext w w' ∧ w.heap.size < w'.heap.size ∧ CellsTo w' w.heap.size l l.length := by
  have hmk := fun wx : World => run_make (P := Try.prog) wx 58 66 Try.t66 (.agg #[.int .i64 0, .float .f64 0, .bool false]) Try.underlying58 Try.type66 rfl .i64 .i64 (l.length : Int) (l.length : Int) (by omega) (Int.le_refl _) (by show (24 : Int) * (l.length : Int) ≤ _; omega) (by omega)
  simp only [Int.toNat_natCast] at hmk
  have hsz : Try.t66.size = 3 := rfl
  rw [hsz] at hmk
  generalize hC : madeCells (Value.agg #[.int .i64 0, .float .f64 0, .bool false]).cells (l.length * 3) = C at hmk
  have hCs : C.size = l.length * 3 := by rw [← hC, size_madeCells]
  have HC : Box (C.size = l.length * 3) := ⟨hCs⟩
  clear hC hCs
  go_enter Try.func31, Try.ntmps31
  go_wp2
  go_loopg [4] l.length (fun gk v4 wr => ∃ (k : Nat), v4 = .int .i64 k ∧ k ≤ l.length ∧ gk + k = l.length ∧ Ext w wr ∧ w.heap.size < wr.heap.size ∧ wr.there w.heap.size 0 (l.length * 3) ∧ CellsTo wr w.heap.size l k)
  case atStart =>
    refine ⟨0, rfl, Nat.zero_le _, rfl, Ext.alloc _ _, by simp, ?_, fun i hi => by omega⟩
    rw [← HC.out]; exact there_made _ _ _
  case round =>
    obtain ⟨k, rfl, hk, hgk, hx, hsize, hth, hcells⟩ := hrel
    by_cases hlt : k < l.length
    · obtain ⟨r0, r1, r2⟩ := raw_at h hlt
      replace r0 := hx.cell r0
      replace r1 := hx.cell r1
      replace r2 := hx.cell r2
      have HX : Box (Ext w wr ∧ w.heap.size < wr.heap.size ∧ wr.there w.heap.size 0 (l.length * 3) ∧ CellsTo wr w.heap.size l k) := ⟨hx, hsize, hth, hcells⟩
      clear hx hsize hth hcells hmk
      go_wp2
      refine wp_region_litX [(14, ExX (.slice (some ⟨w.heap.size, 0, none⟩) l.length l.length)), (15, ExX (.int .i64 (k : Nat))), (16, ExX (.slice (some ⟨b, o, none⟩) l.length c)), (17, ExX (.int .i64 (k : Nat))), (18, ExX (.pointer (some ⟨b, o + k * 3, none⟩))), (19, ExX (.pointer (some ⟨b, o + k * 3, none⟩))), (20, ExX (.int .i64 (cycAt l k))), (21, ExX (.slice (some ⟨b, o, none⟩) l.length c)), (22, ExX (.int .i64 (k : Nat))), (23, ExX (.pointer (some ⟨b, o + k * 3, none⟩))), (24, ExX (.pointer (some ⟨b, o + k * 3 + 1, none⟩))), (25, ExX (.float .f64 (caAt l k))), (26, ExX (.slice (some ⟨b, o, none⟩) l.length c)), (27, ExX (.int .i64 (k : Nat))), (28, ExX (.pointer (some ⟨b, o + k * 3, none⟩))), (29, ExX (.pointer (some ⟨b, o + k * 3 + 2, none⟩))), (30, ExX (.bool (actAt l k))), (31, ExX (.agg #[.int .i64 (cycAt l k), .float .f64 (caAt l k), .bool (actAt l k)])), (32, ExX (.pointer (some ⟨w.heap.size, k * 3, none⟩)))] [(0, ExX (.slice (some ⟨b, o, none⟩) l.length c)), (3, ExX (.slice (some ⟨w.heap.size, 0, none⟩) l.length l.length)), (4, ExX (.int .i64 (k : Nat)))] 34 (by rfl) rfl (by kernel_rfl) (by kernel_rfl) (by kernel_rfl) (by kernel_rfl) (by rfl) (by rfl) ⟨mono_ex _, mono_ex _, mono_ex _, mono_ex _, mono_ex _, mono_ex _, mono_ex _, mono_ex _, mono_ex _, mono_ex _, mono_ex _, mono_ex _, mono_ex _, mono_ex _, mono_ex _, mono_ex _, mono_ex _, mono_ex _, mono_ex _, trivial⟩ ⟨mono_ex _, mono_ex _, mono_ex _, trivial⟩ ?hin ?hs ?post
      case hin => simp [ExX, Act.eval]
      case hs =>
        refine stepsX_cons (sx_move (fun _ _ h => h)) ?_
        refine stepsX_cons (sx_move (fun _ _ h => h)) ?_
        refine stepsX_cons (sx_move (fun _ _ h => h)) ?_
        refine stepsX_cons (sx_move (fun _ _ h => h)) ?_
        refine stepsX_cons (sx_index (fun _ _ h => h) (fun _ _ h => h) (idx42 b o l.length c k hlt) (fun _ => rfl)) ?_
        refine stepsX_cons (sx_field (fun _ _ h => h) (fld49_0 b (o + k * 3)) (fun _ => rfl)) ?_
        refine stepsX_cons (sx_load (fun _ _ h => h) (fun w' hx => ldi0 (hx.cell r0)) (fun _ => rfl)) ?_
        refine stepsX_cons (sx_move (fun _ _ h => h)) ?_
        refine stepsX_cons (sx_move (fun _ _ h => h)) ?_
        refine stepsX_cons (sx_index (fun _ _ h => h) (fun _ _ h => h) (idx42 b o l.length c k hlt) (fun _ => rfl)) ?_
        refine stepsX_cons (sx_field (fun _ _ h => h) (fld49_1 b (o + k * 3)) (fun _ => rfl)) ?_
        refine stepsX_cons (sx_load (fun _ _ h => h) (fun w' hx => ldf0 (hx.cell r1)) (fun _ => rfl)) ?_
        refine stepsX_cons (sx_move (fun _ _ h => h)) ?_
        refine stepsX_cons (sx_move (fun _ _ h => h)) ?_
        refine stepsX_cons (sx_index (fun _ _ h => h) (fun _ _ h => h) (idx42 b o l.length c k hlt) (fun _ => rfl)) ?_
        refine stepsX_cons (sx_field (fun _ _ h => h) (fld49_2 b (o + k * 3)) (fun _ => rfl)) ?_
        refine stepsX_cons (sx_load (fun _ _ h => h) (fun w' hx => ldb0 (hx.cell r2)) (fun _ => rfl)) ?_
        refine stepsX_cons (call31 (cycAt l k) (caAt l k) (actAt l k) (fun _ _ h => h) (fun _ _ h => h) (fun _ _ h => h) (fun _ => rfl)) ?_
        refine stepsX_cons (sx_index (fun _ _ h => h) (fun _ _ h => h) (idx58 w.heap.size l.length l.length k hlt) (fun _ => rfl)) ?_
        exact trivial
      case post =>
        intro w' hx'
        simp only [forOutX_ex, forOutX_nil]
        simp only [Act.put, List.setIfInBounds_toArray, List.set_cons_succ, List.set_cons_zero]
        obtain ⟨hx, hsize, hth, hcells⟩ := HX.out
        refine wp_store_mid 66 (.tmp 32) (.tmp 31) rfl w.heap.size (k * 3) #[.int .i64 (cycAt l k), .float .f64 (caAt l k), .bool (actAt l k)] rfl rfl (there_sub (there_ext hth hx') (Nat.zero_le _) (by simp; omega)) (by kernel_rfl) (by simp [Value.oneCell']) ?_
        have hthx : (w'.there w.heap.size 0 (l.length * 3)) := there_ext hth hx'
        have hth3 : w'.there w.heap.size (k * 3) 3 := there_sub hthx (Nat.zero_le _) (by omega)
        have hrng := World.rangeAt_setCells_same w' w.heap.size (k * 3) [.int .i64 (cycAt l k), .float .f64 (caAt l k), .bool (actAt l k)] hth3
        have HN : Box (Ext w (w'.setCells w.heap.size (k * 3) [.int .i64 (cycAt l k), .float .f64 (caAt l k), .bool (actAt l k)]) ∧ w.heap.size < (w'.setCells w.heap.size (k * 3) [.int .i64 (cycAt l k), .float .f64 (caAt l k), .bool (actAt l k)]).heap.size ∧
            (w'.setCells w.heap.size (k * 3) [.int .i64 (cycAt l k), .float .f64 (caAt l k), .bool (actAt l k)]).there w.heap.size 0 (l.length * 3) ∧ CellsTo (w'.setCells w.heap.size (k * 3) [.int .i64 (cycAt l k), .float .f64 (caAt l k), .bool (actAt l k)]) w.heap.size l (k + 1)) := ⟨by
          have hE := below_setCells (B := w.heap.size) (a := w) w.heap.size (Nat.le_refl _) [.int .i64 (cycAt l k), .float .f64 (caAt l k), .bool (actAt l k)] (k * 3) w' (hx.trans hx')
          refine ⟨hE, ?_, World.there_setCells hthx _ _ _, ?_⟩
          · rw [size_setCells]; have := hx'.size; omega
          · intro i hi
            by_cases e : i = k
            · subst e
              exact ⟨hrng 0 _ rfl, hrng 1 _ rfl, hrng 2 _ rfl⟩
            · obtain ⟨c0, c1, c2⟩ := hcells i (by omega)
              have out : ∀ j, j < 3 → (w'.setCells w.heap.size (k * 3) [.int .i64 (cycAt l k), .float .f64 (caAt l k), .bool (actAt l k)]).cell? ⟨w.heap.size, i * 3 + j, none⟩ = w'.cell? ⟨w.heap.size, i * 3 + j, none⟩ := fun j hj =>
                World.cell?_setCells_out w.heap.size _ (k * 3) w' ⟨w.heap.size, i * 3 + j, none⟩ (fun _ _ => by left; show i * 3 + j < k * 3; omega)
              exact ⟨(out 0 (by omega)).trans (hx'.cell c0), by rw [out 1 (by omega)]; exact hx'.cell c1, by rw [out 2 (by omega)]; exact hx'.cell c2⟩⟩
        clear hrng hth3 hthx hth hcells hx hx' HX r0 r1 r2
        generalize w'.setCells w.heap.size (k * 3) [.int .i64 (cycAt l k), .float .f64 (caAt l k), .bool (actAt l k)] = wn at HN ⊢
        go_wp2
        go_roundg (l.length - (k + 1))
        case measure => omega
        case rel => exact ⟨k + 1, by go_num, by omega, by omega, HN.out⟩
    · have e : k = l.length := by omega
      subst e
      have HX : Box (Ext w wr ∧ w.heap.size < wr.heap.size ∧ CellsTo wr w.heap.size l l.length) := ⟨hx, hsize, hcells⟩
      clear hx hsize hcells hth hmk
      go_wp2
      go_ret
      exact ⟨rfl, HX.out⟩
end Go.Proofs.Qxb6601308a.Ad
