import Derived.Test.Qxb6601308aEvents

namespace Go.Proofs.Qxb6601308a.Ad
set_option linter.unusedVariables false
open Go.ChangeShapes Go.WideShapes Go.ChangeAt Go.RowKit Rg
open Qxb6601308a.Fl (cl fmul fadd Box)
attribute [local go_sem] Fl.run_store_float
def zq1 (e : E0) : E0 := if e.act then e else ⟨e.cyc, 0, e.act⟩
def zq (l : List E0) : List E0 := l.map zq1
theorem zq_length (l : List E0) : (zq l).length = l.length := by simp [zq]
theorem zq_getD (l : List E0) (i : Nat) : (zq l).getD i ⟨0, 0, false⟩ = zq1 (l.getD i ⟨0, 0, false⟩) := by
  unfold zq
  by_cases h : i < l.length
  · simp [h]
  · simp [h, zq1]
theorem zq_cyc (l : List E0) (i : Nat) : cycAt (zq l) i = cycAt l i := by unfold cycAt; rw [zq_getD]; unfold zq1; split <;> rfl
theorem zq_act (l : List E0) (i : Nat) : actAt (zq l) i = actAt l i := by unfold actAt; rw [zq_getD]; unfold zq1; split <;> rfl
theorem zq_ca (l : List E0) (i : Nat) : caAt (zq l) i = if actAt l i then caAt l i else 0 := by unfold caAt actAt; rw [zq_getD]; unfold zq1; split <;> rfl

theorem there_set {w : World} {b' o' n : Nat} (h : w.there b' o' n) (b o : Nat) (v : Value) : (w.setCell ⟨b, o, none⟩ v).there b' o' n := World.there_setCells h b o [v]
theorem cell_set_ne (w : World) (b o o' : Nat) (v : Value) (h : o ≠ o') : (w.setCell ⟨b, o, none⟩ v).cell? ⟨b, o', none⟩ = w.cell? ⟨b, o', none⟩ := World.cell?_setCell_other _ _ _ _ (fun e => h (by injection e))
theorem cell_set_eq {w : World} {b o : Nat} {u : Value} (v : Value) (h : w.cell? ⟨b, o, none⟩ = some u) : (w.setCell ⟨b, o, none⟩ v).cell? ⟨b, o, none⟩ = some v := World.cell?_setCell_same _ _ _ h

set_option maxRecDepth 100000 in
set_option maxHeartbeats 1000000 in
theorem zq26 (b o c : Nat) (l : List E0) (w : World) (h : RawAt w b o l) (h1 : 1 ≤ l.length) (hl : l.length ≤ 16384) (hc : l.length ≤ c) :
    Calls Try.prog 26 #[.slice (some ⟨b, o, none⟩) l.length c] w fun e w' => e = .returned (.slice (some ⟨w.heap.size, 0, none⟩) l.length l.length) ∧ Ext w w' ∧ w.heap.size < w'.heap.size ∧ CellsTo w' w.heap.size (zq l) l.length := by
  have hmk := fun wx : World => run_make (P := Try.prog) wx 42 49 Try.t49 (.agg #[.int .i64 0, .float .f64 0, .bool false]) Try.underlying42 Try.type49 rfl .i64 .i64 (l.length : Int) (l.length : Int) (by omega) (Int.le_refl _) (by show (24 : Int) * (l.length : Int) ≤ _; omega) (by omega)
  simp only [Int.toNat_natCast] at hmk
  have hsz : Try.t49.size = 3 := rfl
  rw [hsz] at hmk
  generalize hC : madeCells (Value.agg #[.int .i64 0, .float .f64 0, .bool false]).cells (l.length * 3) = C at hmk
  have hCs : C.size = l.length * 3 := by rw [← hC, size_madeCells]
  have HC : Box (C.size = l.length * 3) := ⟨hCs⟩
  clear hC hCs
  go_enter Try.func26, Try.ntmps26
  go_wp2
  go_loopg [4] l.length (fun gk v4 wr => ∃ (k : Nat), v4 = .int .i64 k ∧ k ≤ l.length ∧ gk + k = l.length ∧ Ext w wr ∧ w.heap.size < wr.heap.size ∧ wr.there w.heap.size 0 (l.length * 3) ∧ CellsTo wr w.heap.size (zq l) k)
  case atStart =>
    refine ⟨0, rfl, Nat.zero_le _, rfl, Ext.alloc _ _, by simp, ?_, fun i hi => by omega⟩
    rw [← HC.out]; exact there_made _ _ _
  case round =>
    obtain ⟨k, rfl, hk, hgk, hx, hsize, hth, hcells⟩ := hrel
    by_cases hlt : k < l.length
    · obtain ⟨r0, r1, r2⟩ := raw_at h hlt
      replace r0 := hx.cell r0
      replace r1 := hx.cell r1
      replace r2 := hx.cell r2
      obtain ⟨⟨t0, g0⟩, ⟨t1, g1⟩, ⟨t2, g2⟩⟩ : ((wr.cell? ⟨w.heap.size, k * 3, none⟩).isSome = true ∧ wr.frozen? ⟨w.heap.size, k * 3, none⟩ = false) ∧ ((wr.cell? ⟨w.heap.size, k * 3 + 1, none⟩).isSome = true ∧ wr.frozen? ⟨w.heap.size, k * 3 + 1, none⟩ = false) ∧ ((wr.cell? ⟨w.heap.size, k * 3 + 2, none⟩).isSome = true ∧ wr.frozen? ⟨w.heap.size, k * 3 + 2, none⟩ = false) := by
        have a0 := hth (k * 3) (by omega)
        have a1 := hth (k * 3 + 1) (by omega)
        have a2 := hth (k * 3 + 2) (by omega)
        simp only [Nat.zero_add] at a0 a1 a2
        exact ⟨a0, a1, a2⟩
      obtain ⟨x0, t0⟩ := Option.isSome_iff_exists.1 t0
      obtain ⟨x1, t1⟩ := Option.isSome_iff_exists.1 t1
      obtain ⟨x2, t2⟩ := Option.isSome_iff_exists.1 t2
      have HX : Box (Ext w wr ∧ w.heap.size < wr.heap.size ∧ wr.there w.heap.size 0 (l.length * 3) ∧ CellsTo wr w.heap.size (zq l) k) := ⟨hx, hsize, hth, hcells⟩
      clear hx hsize hth hcells hmk
      cases ha : actAt l k with
      | true =>
        rw [ha] at r2
        go_wp2
        go_roundg (l.length - (k + 1))
        case measure => omega
        case rel =>
          obtain ⟨hx, hsize, hth, hcells⟩ := HX.out
          refine ⟨k + 1, by go_num, by omega, by omega, ?_, by simpa using hsize, there_set (there_set (there_set hth _ _ _) _ _ _) _ _ _, ?_⟩
          · exact ((RowKit.Below.setCell hx (p := ⟨w.heap.size, k * 3, none⟩) (Nat.le_refl _) _).setCell (p := ⟨w.heap.size, k * 3 + 1, none⟩) (Nat.le_refl _) _).setCell (p := ⟨w.heap.size, k * 3 + 2, none⟩) (Nat.le_refl _) _
          · intro i hi
            rw [zq_cyc, zq_act, zq_ca]
            by_cases e : i = k
            · subst e
              rw [ha, if_pos rfl]
              refine ⟨?_, ?_, ?_⟩
              · rw [cell_set_ne _ _ _ _ _ (by omega), cell_set_ne _ _ _ _ _ (by omega)]; exact cell_set_eq _ t0
              · rw [cell_set_ne _ _ _ _ _ (by omega)]; exact cell_set_eq _ (by rw [cell_set_ne _ _ _ _ _ (by omega)]; exact t1)
              · exact cell_set_eq _ (by rw [cell_set_ne _ _ _ _ _ (by omega), cell_set_ne _ _ _ _ _ (by omega)]; exact t2)
            · have hc := hcells i (by omega)
              rw [zq_cyc, zq_act, zq_ca] at hc
              refine ⟨?_, ?_, ?_⟩ <;> rw [cell_set_ne _ _ _ _ _ (by omega), cell_set_ne _ _ _ _ _ (by omega), cell_set_ne _ _ _ _ _ (by omega)]
              · exact hc.1
              · exact hc.2.1
              · exact hc.2.2
      | false =>
        rw [ha] at r2
        go_wp2
        go_roundg (l.length - (k + 1))
        case measure => omega
        case rel =>
          obtain ⟨hx, hsize, hth, hcells⟩ := HX.out
          refine ⟨k + 1, by go_num, by omega, by omega, ?_, by simpa using hsize, there_set (there_set (there_set (there_set hth _ _ _) _ _ _) _ _ _) _ _ _, ?_⟩
          · exact (((RowKit.Below.setCell hx (p := ⟨w.heap.size, k * 3, none⟩) (Nat.le_refl _) _).setCell (p := ⟨w.heap.size, k * 3 + 1, none⟩) (Nat.le_refl _) _).setCell (p := ⟨w.heap.size, k * 3 + 2, none⟩) (Nat.le_refl _) _).setCell (p := ⟨w.heap.size, k * 3 + 1, none⟩) (Nat.le_refl _) _
          · intro i hi
            rw [zq_cyc, zq_act, zq_ca]
            by_cases e : i = k
            · subst e
              rw [ha, if_neg (by simp)]
              refine ⟨?_, ?_, ?_⟩
              · rw [cell_set_ne _ _ _ _ _ (by omega), cell_set_ne _ _ _ _ _ (by omega), cell_set_ne _ _ _ _ _ (by omega)]; exact cell_set_eq _ t0
              · exact cell_set_eq _ (by rw [cell_set_ne _ _ _ _ _ (by omega)]; exact cell_set_eq _ (by rw [cell_set_ne _ _ _ _ _ (by omega)]; exact t1))
              · rw [cell_set_ne _ _ _ _ _ (by omega)]; exact cell_set_eq _ (by rw [cell_set_ne _ _ _ _ _ (by omega), cell_set_ne _ _ _ _ _ (by omega)]; exact t2)
            · have hc := hcells i (by omega)
              rw [zq_cyc, zq_act, zq_ca] at hc
              refine ⟨?_, ?_, ?_⟩ <;> rw [cell_set_ne _ _ _ _ _ (by omega), cell_set_ne _ _ _ _ _ (by omega), cell_set_ne _ _ _ _ _ (by omega), cell_set_ne _ _ _ _ _ (by omega)]
              · exact hc.1
              · exact hc.2.1
              · exact hc.2.2
    · have e : k = l.length := by omega
      subst e
      have HX : Box (Ext w wr ∧ w.heap.size < wr.heap.size ∧ CellsTo wr w.heap.size (zq l) l.length) := ⟨hx, hsize, hcells⟩
      clear hx hsize hcells hth hmk
      go_wp2
      go_ret
      exact ⟨rfl, HX.out⟩
end Go.Proofs.Qxb6601308a.Ad
