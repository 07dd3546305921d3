import Derived.Test.Qxb6601308aTop9
import Derived.Test.Qxb6601308aModel

namespace Go.Proofs.Qxb6601308a.Ad
set_option linter.unusedVariables false
open Go.ChangeShapes Go.WideShapes Go.ChangeAt Go.RowKit Rg
open Qxb6601308a.Fl (cl fmul fadd Box nanB)
attribute [local go_sem] Fl.run_store_float
set_option maxRecDepth 100000 in
set_option maxHeartbeats 400000 in
theorem top7 (gb : Nat) (F D S : Array Value) (ff dd ss : Nat → Nat) (a4 a5 : Option Addr) (n4 c4 n5 c5 : Nat) (sv rv : List E0) (w : World) (hF : ∀ i, i < 2412 → F[i]? = some (.float .f64 (ff i))) (hD : ∀ i, i < 400 → D[i]? = some (.float .f64 (dd i))) (hS : ∀ i, i < 4 → S[i]? = some (.float .f64 (ss i)))
    (sF : F.size = 2412) (sD : D.size = 400) (sS : S.size = 4) (hs : IsEvs w (.slice a4 n4 c4) n4 sv) (hr : IsEvs w (.slice a5 n5 c5) n5 rv) :
    Calls Try.prog 7 #[.float .f64 gb, .agg F, .agg D, .agg S, .slice a4 n4 c4, .slice a5 n5 c5] w fun e w' => e = .returned (.bool true) ∧ Below w.heap.size w w' := by
  have HF := Box.mk hF
  have HD := Box.mk hD
  have HSS := Box.mk hS
  have HS := Box.mk hs
  have HR := Box.mk hr
  have X3 := Box.mk (((Ext.alloc w (.cells F 38)).trans (Ext.alloc _ (.cells D 40))).trans (Ext.alloc _ (.cells S 41)))
  clear hF hD hS hs hr
  by_cases b4 : n4 ≤ 16384
  · have d4 : decide ((16384 : Int) < (n4 : Int)) = false := by simp; omega
    by_cases b5 : n5 ≤ 16384
    · have d5 : decide ((16384 : Int) < (n5 : Int)) = false := by simp; omega
      go_enter Try.func7, Try.ntmps7
      go_wp2_with fail
      refine (wfAny _ n4 sv _ (isEvs_ext HS.out X3.out) b4).mono ?_
      rintro e w1 ⟨k1, rfl, rfl | ⟨rfl, l4, wf4⟩⟩
      · go_wp2_with fail
        go_ret
        exact ⟨rfl, X3.out.trans (Ext.drewN _ _)⟩
      have W4 := Box.mk wf4
      clear wf4
      go_wp2_with fail
      refine (wfAny _ n5 rv _ (isEvs_ext HR.out (X3.out.trans (Ext.drewN _ _))) b5).mono ?_
      rintro e w1 ⟨k2, rfl, rfl | ⟨rfl, l5, wf5⟩⟩
      · go_wp2_with fail
        go_ret
        exact ⟨rfl, X3.out.trans (Ext.drewN _ _)⟩
      have W5 := Box.mk wf5
      clear wf5
      go_upto_region 5 with fail
      obtain ⟨b38, b40, b41, _⟩ := three_new w (.cells F 38) (.cells D 40) (.cells S 41)
      obtain ⟨X, hX⟩ : ∃ X, X = (((w.alloc (.cells F 38)).alloc (.cells D 40)).alloc (.cells S 41)).drewN (k1 + k2) := ⟨_, rfl⟩
      rw [← hX]
      have B38 : Box (X.heap[w.heap.size]? = some (.cells F 38)) := ⟨by rw [hX]; exact b38⟩
      have B40 : Box (X.heap[w.heap.size + 1]? = some (.cells D 40)) := ⟨by rw [hX]; exact b40⟩
      have B41 : Box (X.heap[w.heap.size + 1 + 1]? = some (.cells S 41)) := ⟨by rw [hX]; exact b41⟩
      have XX : Box (Ext w X) := ⟨by rw [hX]; exact X3.out.trans (Ext.drewN _ _)⟩
      have I38 : Box ((Try.prog.info? 38).map (·.size) = some F.size) := ⟨by rw [sF]; kernel_rfl⟩
      have I40 : Box ((Try.prog.info? 40).map (·.size) = some D.size) := ⟨by rw [sD]; kernel_rfl⟩
      have I41 : Box ((Try.prog.info? 41).map (·.size) = some S.size) := ⟨by rw [sS]; kernel_rfl⟩
      clear hX b38 b40 b41 sF sD sS X3 d4 d5
      obtain ⟨rfl, a, c, ev, hp⟩ := HS.out
      cases ev
      obtain ⟨hc4, bs, os, rfl, hraw4⟩ := hp l4
      obtain ⟨rfl, a, c, ev, hp'⟩ := HR.out
      cases ev
      obtain ⟨hc5, br, or, rfl, hraw5⟩ := hp' l5
      have RS := Box.mk hraw4
      have RR := Box.mk hraw5
      clear hp hp' hraw4 hraw5 HS HR
      go_wp2_with (first
        | (refine wpList_load_row (by rfl) 38 (.tmp 7) (by rfl) _ (by rfl) 38 F _ _ B38.out Try.underlying38 (by rfl) I38.out ?_)
        | (refine wpList_load_row (by rfl) 40 (.tmp 8) (by rfl) _ (by rfl) 40 D _ _ B40.out Try.underlying40 (by rfl) I40.out ?_)
        | (refine wpList_load_row (by rfl) 41 (.tmp 9) (by rfl) _ (by rfl) 41 S _ _ B41.out Try.underlying41 (by rfl) I41.out ?_))
      refine (run22 gb F D S ff dd ss bs os c4 br or c5 sv rv X HF.out HD.out HSS.out (raw_ext RS.out XX.out) (raw_ext RR.out XX.out) b4 b5 hc4 hc5 W4.out W5.out).mono ?_
      rintro e w1 ⟨m1, p1, d1, rfl, hx1, hr1⟩
      have X1 := Box.mk hx1
      have R1 := Box.mk hr1
      clear hx1 hr1
      go_upto_region 6 with fail
      obtain ⟨Y, hY⟩ : ∃ Y, Y = w1.alloc (.cells #[.float .f64 m1, .float .f64 p1, .float .f64 d1, .float .f64 (ss 3)] 41) := ⟨_, rfl⟩
      rw [← hY]
      have XY : Box (Ext X Y) := ⟨by rw [hY]; exact X1.out.trans (Ext.alloc _ _)⟩
      have CY : Box (∀ i v, (#[.float .f64 m1, .float .f64 p1, .float .f64 d1, .float .f64 (ss 3)] : Array Value)[i]? = some v → Y.cell? ⟨w1.heap.size, i, none⟩ = some v) := ⟨fun i v h => by rw [hY]; exact (cellsNew w1 _ 41 i).trans h⟩
      have hYs : w1.heap.size < Y.heap.size := by rw [hY]; simp
      have B38' : Box (Y.heap[w.heap.size]? = some (.cells F 38)) := ⟨ext_blk XY.out B38.out⟩
      have B40' : Box (Y.heap[w.heap.size + 1]? = some (.cells D 40)) := ⟨ext_blk XY.out B40.out⟩
      have B41' : Box (Y.heap[w.heap.size + 1 + 1]? = some (.cells S 41)) := ⟨ext_blk XY.out B41.out⟩
      replace RS := Box.mk (raw_ext RS.out (XX.out.trans XY.out))
      replace RR := Box.mk (raw_ext RR.out (XX.out.trans XY.out))
      clear hY B38 B40 B41
      go_wp2_with (first
        | (refine wpList_load_row (by rfl) 38 (.tmp 7) (by rfl) _ (by rfl) 38 F _ _ B38'.out Try.underlying38 (by rfl) I38.out ?_)
        | (refine wpList_load_row (by rfl) 40 (.tmp 8) (by rfl) _ (by rfl) 40 D _ _ B40'.out Try.underlying40 (by rfl) I40.out ?_)
        | (refine wpList_load_row (by rfl) 41 (.tmp 9) (by rfl) _ (by rfl) 41 S _ _ B41'.out Try.underlying41 (by rfl) I41.out ?_))
      refine (mod23 gb F D S ff dd ss bs os c4 br or c5 sv rv Y HF.out HD.out HSS.out RS.out RR.out b4 b5 hc4 hc5 W4.out W5.out).mono ?_
      rintro e w2 ⟨m2, p2, d2, rfl, hx2, hr2⟩
      have X2 := Box.mk hx2
      have HR : Box (((cl m1, cl p1, cl d1) : Option Nat × Option Nat × Option Nat) = (cl m2, cl p2, cl d2)) := ⟨by rw [R1.out, hr2]⟩
      clear hx2 hr2 R1 B38' B40' B41' I38 I40 I41
      go_upto_region 7 with fail
      obtain ⟨g, hg⟩ : ∃ g, g = w2.heap.size := ⟨_, rfl⟩
      obtain ⟨w7, hw7⟩ : ∃ w7, w7 = w2.alloc (.cells #[.float .f64 m2, .float .f64 p2, .float .f64 d2, .float .f64 (ss 3)] 41) := ⟨_, rfl⟩
      have hrng : w7.rangeAt g 0 [.float .f64 m2, .float .f64 p2, .float .f64 d2, .float .f64 (ss 3)] := fun q v hv => by
        rw [Nat.zero_add, hw7, hg]
        exact (cellsNew w2 _ 41 q).trans (by simpa using hv)
      have x7 : Ext w2 w7 := by rw [hw7]; exact Ext.alloc _ _
      have HN : Box (Alike4 w7 w1.heap.size g (four m1 p1 d1 (ss 3)) (four m2 p2 d2 (ss 3)) ∧ Ext w w7) := ⟨alike4 (fun q v h => (X2.out.trans x7).cell (CY.out q v h)) hrng HR.out, (XX.out.trans XY.out).trans (X2.out.trans x7)⟩
      rw [← hw7, ← hg]
      clear hrng hw7 x7 hg HR RS RR CY XY XX X1 X2 W4 W5 HF HD HSS hYs
      go_wp2
      generalize four m1 p1 d1 (ss 3) = x at HN
      generalize four m2 p2 d2 (ss 3) = y at HN
      go_loopg [15] 4 (fun gk v15 wq => ∃ k nd : Nat, v15 = .int .i64 k ∧ k ≤ 4 ∧ gk + k = 4 ∧ wq = w7.drewN nd)
      case atStart => exact ⟨0, 0, rfl, by omega, rfl, rfl⟩
      case round =>
        obtain ⟨k, nd, rfl, hk, hgk, hwq⟩ := hrel
        have HQ := Box.mk hwq
        clear hwq
        by_cases hlt : k < 4
        · obtain ⟨q1, q2, hcl⟩ : wr.cell? ⟨w1.heap.size, k, none⟩ = some (.float .f64 (x k)) ∧ wr.cell? ⟨g, k, none⟩ = some (.float .f64 (y k)) ∧ cl (x k) = cl (y k) := by rw [HQ.out]; exact HN.out.1 k hlt
          have HC := Box.mk hcl
          clear hcl
          have i0 : (0 : Int) ≤ (k : Int) := by omega
          have i1 : (k : Int) < 4 := by omega
          go_wp2
          go_quiet ((go_at_call 24; exact Calls.quiet_of_same (same24 _ _ _ HC.out)))
          go_wp2
          go_roundg (4 - (k + 1))
          case measure => omega
          case rel => exact ⟨k + 1, nd + nq, by go_num, by omega, by omega, by rw [HQ.out, World.drewN_drewN]⟩
        · go_wp2
          go_ret
          exact ⟨rfl, by rw [HQ.out]; exact HN.out.2.trans (Ext.drewN _ _)⟩
    · go_enter Try.func7, Try.ntmps7
      go_wp2_with fail
      go_ret
      exact ⟨rfl, X3.out⟩
  · go_enter Try.func7, Try.ntmps7
    go_wp2_with fail
    go_ret
    exact ⟨rfl, X3.out⟩
end Go.Proofs.Qxb6601308a.Ad
