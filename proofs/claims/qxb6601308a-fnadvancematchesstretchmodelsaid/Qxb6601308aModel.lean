/-
  The model of the stretches, walked: its loop goes as advance's plain function.
-/
import Derived.Test.Qxb6601308aDrop
import Derived.Deep.MidRow
namespace Go.Proofs.Qxb6601308a.Ad
set_option linter.unusedVariables false
open Go.ChangeShapes Go.WideShapes Go.ChangeAt Go.RowKit Rg
open Qxb6601308a.Fl (cl fmul fadd Box)
attribute [local go_sem] Fl.run_store_float

theorem range3 {w : World} {b o x y z : Nat} (h0 : w.cell? ⟨b, o, none⟩ = some (.float .f64 x)) (h1 : w.cell? ⟨b, o + 1, none⟩ = some (.float .f64 y)) (h2 : w.cell? ⟨b, o + 2, none⟩ = some (.float .f64 z)) : w.rangeAt b o [.float .f64 x, .float .f64 y, .float .f64 z] := by
  intro j v hv
  match j, hv with
  | 0, hv => cases hv; exact h0
  | 1, hv => cases hv; exact h1
  | 2, hv => cases hv; exact h2

/-- what holds at a round's head of the model -/
def MHead (K : Nat → Option Nat) (RES : Option Nat × Option Nat × Option Nat) (w : World) (ff dd ss : Nat → Nat) (sv rv : List E0) (gk : Nat) (v13 v14 v15 v16 : Value) (wr : World) : Prop :=
  ∃ (t i j m p d : Nat), v13 = .float .f64 m ∧ v14 = .float .f64 p ∧ v15 = .float .f64 d ∧ v16 = .int .i64 t ∧ i < sv.length ∧ j < rv.length ∧ MR w ff dd ss wr ∧ ToCome K RES t ((toE sv).drop i) ((toE rv).drop j) (cl m, cl p, cl d) ∧ gk + t = 200

set_option maxRecDepth 100000 in
set_option maxHeartbeats 4000000 in
theorem mod23 (gb : Nat) (F D S : Array Value) (ff dd ss : Nat → Nat) (bs os cs br or cr : Nat) (sv rv : List E0) (w : World) (hF : ∀ i, i < 2412 → F[i]? = some (.float .f64 (ff i))) (hD : ∀ i, i < 400 → D[i]? = some (.float .f64 (dd i))) (hS : ∀ i, i < 4 → S[i]? = some (.float .f64 (ss i)))
    (hs : RawAt w bs os sv) (hr : RawAt w br or rv) (ls : sv.length ≤ 16384) (lr : rv.length ≤ 16384) (lsc : sv.length ≤ cs) (lrc : rv.length ≤ cr) (ws : WfTo sv sv.length) (wr : WfTo rv rv.length) :
    Calls Try.prog 23 #[.float .f64 gb, .agg F, .agg D, .agg S, .slice (some ⟨bs, os, none⟩) sv.length cs, .slice (some ⟨br, or, none⟩) rv.length cr] w fun e w' => ∃ m p d, e = .returned (.agg #[.float .f64 m, .float .f64 p, .float .f64 d, .float .f64 (ss 3)]) ∧ Ext w w' ∧
      (cl m, cl p, cl d) = adv (fun i => cl (kv gb ff dd i)) 200 0 (toE sv) (toE rv) (cl (ss 0), cl (ss 1), cl (ss 2)) := by
  have l1 : 0 < sv.length := ws.1
  have l2 : 0 < rv.length := wr.1
  have HT0 : Box (ToCome (fun i => cl (kv gb ff dd i)) (adv (fun i => cl (kv gb ff dd i)) 200 0 (toE sv) (toE rv) (cl (ss 0), cl (ss 1), cl (ss 2))) 0 ((toE sv).drop 0) ((toE rv).drop 0) (cl (ss 0), cl (ss 1), cl (ss 2))) := ⟨by omega, fun _ => ⟨(wf_toE ws).1, (wf_toE wr).1⟩, 200, by omega, rfl⟩
  generalize adv (fun i => cl (kv gb ff dd i)) 200 0 (toE sv) (toE rv) (cl (ss 0), cl (ss 1), cl (ss 2)) = RES at HT0 ⊢
  have WS := Box.mk ws
  have WR := Box.mk wr
  have HS := Box.mk hs
  have HR := Box.mk hr
  clear ws wr hs hr
  have HM := Box.mk (MR_start w F D S #[.float .f64 0, .float .f64 0, .float .f64 0, .float .f64 0] ff dd ss hF hD hS rfl)
  clear hF hD hS
  go_enter Try.func23, Try.ntmps23
  go_upto_region 1 with fail
  generalize ((((w.alloc (.cells F 38)).alloc (.cells D 40)).alloc (.cells S 41)).alloc (.cells #[.float .f64 0, .float .f64 0, .float .f64 0, .float .f64 0] 41)) = X at HM ⊢
  have s0 := HM.out.2.2.2.2.1 0 (by omega)
  have s1 := HM.out.2.2.2.2.1 1 (by omega)
  have s2 := HM.out.2.2.2.2.1 2 (by omega)
  go_wp2
  go_loopg [13, 14, 15, 16] 200 (fun gk v13 v14 v15 v16 wr => MHead (fun i => cl (kv gb ff dd i)) RES w ff dd ss sv rv gk v13 v14 v15 v16 wr)
  case atStart => exact ⟨0, 0, 0, ss 0, ss 1, ss 2, rfl, rfl, rfl, rfl, l1, l2, HM.out, HT0.out, rfl⟩
  case round =>
    clear HT0 s0 s1 s2 HM
    obtain ⟨t, i, j, m, p, d, rfl, rfl, rfl, rfl, hi, hj, hM, hT, hgk⟩ := hrel
    have HM := Box.mk hM
    have HT := Box.mk hT
    clear hM hT
    by_cases ht : t < 200
    · obtain ⟨o1, o2⟩ := HT.out.2.1 ht
      have rS := raw_ext HS.out HM.out.1
      have rR := raw_ext HR.out HM.out.1
      have p1 := sp_of WS.out hi ht o1
      have p2 := sp_of WR.out hj ht o2
      have C32 := next32 bs os cs i br or cr j t sv rv wr rS ls lsc p1 rR lr lrc p2 ht
      rw [next_drop WS.out WR.out hi hj] at C32
      have C33s := lat33 bs os cs i t sv wr rS ls lsc p1 ht
      have C33r := lat33 br or cr j t rv wr rR lr lrc p2 ht
      obtain ⟨hc0, hc1, hc2⟩ := cells_drop rS WS.out hi
      obtain ⟨hd0, hd1, hd2⟩ := cells_drop rR WR.out hj
      have k1c := o1.2.1
      have k2c := o2.2.1
      have q1 := ok_second o1 ht
      have q2 := ok_second o2 ht
      have hnx : t < nextOf ((toE sv).drop i) ((toE rv).drop j) ∧ nextOf ((toE sv).drop i) ((toE rv).drop j) ≤ 200 := by unfold nextOf; omega
      have HD := Box.mk (step_drop sv i (nextOf ((toE sv).drop i) ((toE rv).drop j)) hi)
      have HD' := Box.mk (step_drop rv j (nextOf ((toE sv).drop i) ((toE rv).drop j)) hj)
      have HN : Box (∀ x, x = moved (fun i => cl (kv gb ff dd i)) t (nextOf ((toE sv).drop i) ((toE rv).drop j)) ((toE sv).drop i) ((toE rv).drop j) (cl m, cl p, cl d) → ToCome (fun i => cl (kv gb ff dd i)) RES (nextOf ((toE sv).drop i) ((toE rv).drop j)) (stepOn (nextOf ((toE sv).drop i) ((toE rv).drop j)) ((toE sv).drop i)) (stepOn (nextOf ((toE sv).drop i) ((toE rv).drop j)) ((toE rv).drop j)) x) := ⟨fun x e => by rw [e]; exact toCome_step HT.out ht⟩
      have MV : Box (∀ x y, moved (fun i => cl (kv gb ff dd i)) t (nextOf ((toE sv).drop i) ((toE rv).drop j)) ((toE sv).drop i) ((toE rv).drop j) (x, y) = if (hd ((toE sv).drop i)).act && (hd ((toE rv).drop j)).act then afterC (fun i => cl (kv gb ff dd i)) (nextOf ((toE sv).drop i) ((toE rv).drop j) - t) x y.1 y.2 (synC (fun i => cl (kv gb ff dd i)) t (hd ((toE sv).drop i)) (hd ((toE rv).drop j))) else (x, y)) := ⟨fun x y => rfl⟩
      clear HT rS rR p1 p2 o1 o2 q1 q2 WS WR HS HR
      generalize hd ((toE sv).drop i) = a at hc0 hc1 hc2 k1c MV
      generalize hd ((toE rv).drop j) = b at hd0 hd1 hd2 k2c MV
      generalize nextOf ((toE sv).drop i) ((toE rv).drop j) = NX at C32 hnx HD HD' HN MV
      have B32 := Box.mk C32
      have B33s := Box.mk C33s
      have B33r := Box.mk C33r
      clear C32 C33s C33r
      go_wp2_with fail
      refine B32.out.mono ?_
      rintro e w' ⟨rfl, e1⟩
      rw [e1]; clear e1 w' B32
      go_wp2_with fail
      refine B33s.out.mono ?_
      rintro e w' ⟨rfl, e1⟩
      rw [e1]; clear e1 w' B33s
      go_wp2_with fail
      refine B33r.out.mono ?_
      rintro e w' ⟨rfl, e1⟩
      rw [e1]; clear e1 w' B33r
      go_upto_region 9 with fail
      go_cut [58] (fun v wx => v = .bool (a.act && b.act) ∧ wx = wr)
      case first =>
        have i1 : (0 : Int) ≤ (i : Int) := by omega
        have i2 : (i : Int) < (sv.length : Int) := by omega
        have i3 : (0 : Int) ≤ (j : Int) := by omega
        have i4 : (j : Int) < (rv.length : Int) := by omega
        cases ha : a.act with
        | true =>
          rw [ha] at hc2
          cases hb : b.act with
          | true => rw [hb] at hd2; go_wp2; go_meet; exact ⟨by rw [ha, hb]; rfl, rfl⟩
          | false => rw [hb] at hd2; go_wp2; go_meet; exact ⟨by rw [ha, hb]; rfl, rfl⟩
        | false => rw [ha] at hc2; go_wp2; go_meet; exact ⟨by rw [ha]; rfl, rfl⟩
      case rest =>
        obtain ⟨rfl, rfl⟩ := hcut
        go_upto_if 58 with fail
        go_cut [13, 14, 15] (fun v13 v14 v15 wx => ∃ m' p' d', v13 = .float .f64 m' ∧ v14 = .float .f64 p' ∧ v15 = .float .f64 d' ∧ Ext wc wx ∧ (cl m', cl p', cl d') = moved (fun i => cl (kv gb ff dd i)) t NX ((toE sv).drop i) ((toE rv).drop j) (cl m, cl p, cl d))
        case first =>
          cases hab : (a.act && b.act) with
          | false =>
            have EM : Box ((cl m, cl p, cl d) = moved (fun i => cl (kv gb ff dd i)) t NX ((toE sv).drop i) ((toE rv).drop j) (cl m, cl p, cl d)) := ⟨by rw [MV.out, hab]; rfl⟩
            go_wp2
            go_meet
            exact ⟨m, p, d, rfl, rfl, rfl, Ext.refl _, EM.out⟩
          | true =>
            have HAB : Box ((a.act && b.act) = true) := ⟨hab⟩
            go_upto_region 11 with fail
            clear hab hc2 hd2
            rw [show ((NX : Nat) : Int) - (t : Int) = ((NX - t : Nat) : Int) from by omega]
            have hkk : NX - t ≤ 200 := by omega
            have HK := Box.mk (after_kv gb ff dd (NX - t) hkk)
            have HSY : Box (synC (fun i => cl (kv gb ff dd i)) t a b = fmul (fmul (fmul (fmul (cl gb) (cl a.ca)) (cl (dd (0 + (t - a.cyc))))) (cl b.ca)) (cl (dd (200 + (t - b.cyc))))) := ⟨by
              unfold synC
              simp only [kv_dec0, kv_dec1, Nat.zero_add]
              rfl⟩
            have HMV : Box (∀ x, afterC (fun i => cl (kv gb ff dd i)) (NX - t) (cl m) (cl p) (cl d) (synC (fun i => cl (kv gb ff dd i)) t a b) = x → x = moved (fun i => cl (kv gb ff dd i)) t NX ((toE sv).drop i) ((toE rv).drop j) (cl m, cl p, cl d)) := ⟨fun x e => by rw [MV.out, HAB.out, if_pos rfl, ← e]⟩
            clear MV HAB
            generalize NX - t = kk at HK hkk HMV ⊢
            have hDc := HM.out.2.2.2.1
            have hFc := HM.out.2.2.1
            refine wp_region_tbl [(62, Ex (.float .f64 (gb))), (63, Ex (.slice (some ⟨bs, os, none⟩) sv.length cs)), (64, Ex (.int .i64 ((i : Nat)))), (65, Ex (.pointer (some ⟨bs, os + i * 3, none⟩))), (66, Ex (.pointer (some ⟨bs, os + i * 3 + 1, none⟩))), (67, Ex (.float .f64 (a.ca))), (68, Fl (fmul (cl gb) (cl a.ca))), (69, Ex (.int .i64 ((t : Nat)))), (70, Ex (.slice (some ⟨bs, os, none⟩) sv.length cs)), (71, Ex (.int .i64 ((i : Nat)))), (72, Ex (.pointer (some ⟨bs, os + i * 3, none⟩))), (73, Ex (.pointer (some ⟨bs, os + i * 3, none⟩))), (74, Ex (.int .i64 ((a.cyc : Nat)))), (75, Ex (.int .i64 (((t - a.cyc : Nat) : Int)))), (76, Ex (.pointer (some ⟨(w.heap.size + 1), 0, none⟩))), (77, Ex (.pointer (some ⟨(w.heap.size + 1), 0 + (t - a.cyc), none⟩))), (78, Ex (.float .f64 (dd (0 + (t - a.cyc))))), (79, Fl (fmul (fmul (cl gb) (cl a.ca)) (cl (dd (0 + (t - a.cyc)))))), (80, Ex (.slice (some ⟨br, or, none⟩) rv.length cr)), (81, Ex (.int .i64 ((j : Nat)))), (82, Ex (.pointer (some ⟨br, or + j * 3, none⟩))), (83, Ex (.pointer (some ⟨br, or + j * 3 + 1, none⟩))), (84, Ex (.float .f64 (b.ca))), (85, Fl (fmul (fmul (fmul (cl gb) (cl a.ca)) (cl (dd (0 + (t - a.cyc))))) (cl b.ca))), (86, Ex (.int .i64 ((t : Nat)))), (87, Ex (.slice (some ⟨br, or, none⟩) rv.length cr)), (88, Ex (.int .i64 ((j : Nat)))), (89, Ex (.pointer (some ⟨br, or + j * 3, none⟩))), (90, Ex (.pointer (some ⟨br, or + j * 3, none⟩))), (91, Ex (.int .i64 ((b.cyc : Nat)))), (92, Ex (.int .i64 (((t - b.cyc : Nat) : Int)))), (93, Ex (.pointer (some ⟨(w.heap.size + 1), 200, none⟩))), (94, Ex (.pointer (some ⟨(w.heap.size + 1), 200 + (t - b.cyc), none⟩))), (95, Ex (.float .f64 (dd (200 + (t - b.cyc))))), (96, Fl (fmul (fmul (fmul (fmul (cl gb) (cl a.ca)) (cl (dd (0 + (t - a.cyc))))) (cl b.ca)) (cl (dd (200 + (t - b.cyc)))))), (21, Fl (fmul (fmul (fmul (fmul (cl gb) (cl a.ca)) (cl (dd (0 + (t - a.cyc))))) (cl b.ca)) (cl (dd (200 + (t - b.cyc))))))] [(0, Ex (.float .f64 (gb))), (4, Ex (.slice (some ⟨bs, os, none⟩) sv.length cs)), (5, Ex (.slice (some ⟨br, or, none⟩) rv.length cr)), (8, Ex (.pointer (some ⟨(w.heap.size + 1), 0, none⟩))), (16, Ex (.int .i64 ((t : Nat)))), (18, Ex (.int .i64 ((i : Nat)))), (19, Ex (.int .i64 ((j : Nat))))] 165 rfl (by kernel_rfl) (by kernel_rfl) (by kernel_rfl) (by rfl) (by rfl) ?hin ?hs ?post
            case hin => simp [Ex, Act.eval]
            case hs =>
                  refine stepsOk_cons (st_move (fun _ h => h)) ?_
                  refine stepsOk_cons (st_move (fun _ h => h)) ?_
                  refine stepsOk_cons (st_move (fun _ h => h)) ?_
                  refine stepsOk_cons (st_index (fun _ h => h) (fun _ h => h) (idx42 bs os sv.length cs i hi) rfl) ?_
                  refine stepsOk_cons (st_field (fun _ h => h) (fld49_1 bs (os + i * 3)) rfl) ?_
                  refine stepsOk_cons (st_load (fun _ h => h) (fun n => ldf n (by exact hc1)) rfl) ?_
                  refine stepsOk_cons (st_fmul fl_ex fl_ex (fun _ h => h)) ?_
                  refine stepsOk_cons (st_move (fun _ h => h)) ?_
                  refine stepsOk_cons (st_move (fun _ h => h)) ?_
                  refine stepsOk_cons (st_move (fun _ h => h)) ?_
                  refine stepsOk_cons (st_index (fun _ h => h) (fun _ h => h) (idx42 bs os sv.length cs i hi) rfl) ?_
                  refine stepsOk_cons (st_field (fun _ h => h) (fld49_0 bs (os + i * 3)) rfl) ?_
                  refine stepsOk_cons (st_load (fun _ h => h) (fun n => ldi n (by exact hc0)) rfl) ?_
                  refine stepsOk_cons (st_sub (fun _ h => h) (fun _ h => h) (isub t a.cyc k1c (by omega)) rfl) ?_
                  refine stepsOk_cons (st_index_const (fun _ h => h) (idx40_0 (w.heap.size + 1)) rfl) ?_
                  refine stepsOk_cons (st_index (fun _ h => h) (fun _ h => h) (idx39 (w.heap.size + 1) 0 (t - a.cyc) (by omega)) rfl) ?_
                  refine stepsOk_cons (st_load (fun _ h => h) (fun n => ldf n (by exact hDc (0 + (t - a.cyc)) (by omega))) rfl) ?_
                  refine stepsOk_cons (st_fmul (fun _ h => h) fl_ex (fun _ h => h)) ?_
                  refine stepsOk_cons (st_move (fun _ h => h)) ?_
                  refine stepsOk_cons (st_move (fun _ h => h)) ?_
                  refine stepsOk_cons (st_index (fun _ h => h) (fun _ h => h) (idx42 br or rv.length cr j hj) rfl) ?_
                  refine stepsOk_cons (st_field (fun _ h => h) (fld49_1 br (or + j * 3)) rfl) ?_
                  refine stepsOk_cons (st_load (fun _ h => h) (fun n => ldf n (by exact hd1)) rfl) ?_
                  refine stepsOk_cons (st_fmul (fun _ h => h) fl_ex (fun _ h => h)) ?_
                  refine stepsOk_cons (st_move (fun _ h => h)) ?_
                  refine stepsOk_cons (st_move (fun _ h => h)) ?_
                  refine stepsOk_cons (st_move (fun _ h => h)) ?_
                  refine stepsOk_cons (st_index (fun _ h => h) (fun _ h => h) (idx42 br or rv.length cr j hj) rfl) ?_
                  refine stepsOk_cons (st_field (fun _ h => h) (fld49_0 br (or + j * 3)) rfl) ?_
                  refine stepsOk_cons (st_load (fun _ h => h) (fun n => ldi n (by exact hd0)) rfl) ?_
                  refine stepsOk_cons (st_sub (fun _ h => h) (fun _ h => h) (isub t b.cyc k2c (by omega)) rfl) ?_
                  refine stepsOk_cons (st_index_const (fun _ h => h) (idx40_1 (w.heap.size + 1)) rfl) ?_
                  refine stepsOk_cons (st_index (fun _ h => h) (fun _ h => h) (idx39 (w.heap.size + 1) 200 (t - b.cyc) (by omega)) rfl) ?_
                  refine stepsOk_cons (st_load (fun _ h => h) (fun n => ldf n (by exact hDc (200 + (t - b.cyc)) (by omega))) rfl) ?_
                  refine stepsOk_cons (st_fmul (fun _ h => h) fl_ex (fun _ h => h)) ?_
                  refine stepsOk_cons (st_assign (fun _ h => h)) ?_
                  exact trivial
            case post =>
                simp only [forOut_ex, forOut_fl, forOut_nil]
                intro r68 _ r79 _ r85 _ r96 _ r21 h21 n
                have H21 : Box (cl r21 = synC (fun i => cl (kv gb ff dd i)) t a b) := ⟨by rw [HSY.out]; exact h21⟩
                have G0 : Box (∀ W', Ext wc W' → W'.rangeAt w.heap.size (kk * 3) [.float .f64 (ff (kk * 3)), .float .f64 (ff (kk * 3 + 1)), .float .f64 (ff (kk * 3 + 2))]) := ⟨fun W' hx => range3 (hx.cell (hFc (kk * 3) (by omega))) (hx.cell (hFc (kk * 3 + 1) (by omega))) (hx.cell (hFc (kk * 3 + 2) (by omega)))⟩
                have G1 : Box (∀ W', Ext wc W' → W'.rangeAt w.heap.size (603 + kk * 3) [.float .f64 (ff (603 + kk * 3)), .float .f64 (ff (603 + kk * 3 + 1)), .float .f64 (ff (603 + kk * 3 + 2))]) := ⟨fun W' hx => range3 (hx.cell (hFc (603 + kk * 3) (by omega))) (hx.cell (hFc (603 + kk * 3 + 1) (by omega))) (hx.cell (hFc (603 + kk * 3 + 2) (by omega)))⟩
                have G2 : Box (∀ W', Ext wc W' → W'.rangeAt w.heap.size (1206 + kk * 3) [.float .f64 (ff (1206 + kk * 3)), .float .f64 (ff (1206 + kk * 3 + 1)), .float .f64 (ff (1206 + kk * 3 + 2))]) := ⟨fun W' hx => range3 (hx.cell (hFc (1206 + kk * 3) (by omega))) (hx.cell (hFc (1206 + kk * 3 + 1) (by omega))) (hx.cell (hFc (1206 + kk * 3 + 2) (by omega)))⟩
                have G3 : Box (∀ W', Ext wc W' → W'.rangeAt w.heap.size (1809 + kk * 3) [.float .f64 (ff (1809 + kk * 3)), .float .f64 (ff (1809 + kk * 3 + 1)), .float .f64 (ff (1809 + kk * 3 + 2))]) := ⟨fun W' hx => range3 (hx.cell (hFc (1809 + kk * 3) (by omega))) (hx.cell (hFc (1809 + kk * 3 + 1) (by omega))) (hx.cell (hFc (1809 + kk * 3 + 2) (by omega)))⟩
                have I36 : Box ((Try.prog.info? 36).map (·.size) = some 3) := ⟨by kernel_rfl⟩
                clear h21 hFc hDc hc0 hc1 hd0 hd1 HSY
                simp only [Act.put, List.setIfInBounds_toArray, List.set_cons_succ, List.set_cons_zero]
                have hk0 : (0 : Int) ≤ (kk : Int) := by omega
                have hk1 : (kk : Int) < 201 := by omega
                have hsz := HM.out.2.1
                obtain ⟨W0, hW0⟩ : ∃ W0, W0 = wc.drewN n := ⟨_, rfl⟩
                have X0 : Box (Ext wc W0) := ⟨by rw [hW0]; exact Ext.drewN _ _⟩
                rw [← hW0]
                clear hW0
                go_upto_region 16 with (first
                | (refine wpList_load_mid (by rfl) 36 (.tmp 99) (by rfl) _ (kk * 3) (by rfl) [.float .f64 (ff (kk * 3)), .float .f64 (ff (kk * 3 + 1)), .float .f64 (ff (kk * 3 + 2))] _ (G0.out _ X0.out) Try.underlying36 (by rfl) I36.out ?_)
                    | (refine wpList_load_mid (by rfl) 36 (.tmp 103) (by rfl) _ (603 + kk * 3) (by rfl) [.float .f64 (ff (603 + kk * 3)), .float .f64 (ff (603 + kk * 3 + 1)), .float .f64 (ff (603 + kk * 3 + 2))] _ (G1.out _ (X0.out.trans (Ext.alloc _ _))) Try.underlying36 (by rfl) I36.out ?_)
                    | (refine wpList_load_mid (by rfl) 36 (.tmp 107) (by rfl) _ (1206 + kk * 3) (by rfl) [.float .f64 (ff (1206 + kk * 3)), .float .f64 (ff (1206 + kk * 3 + 1)), .float .f64 (ff (1206 + kk * 3 + 2))] _ (G2.out _ ((X0.out.trans (Ext.alloc _ _)).trans (Ext.alloc _ _))) Try.underlying36 (by rfl) I36.out ?_)
                    | (refine wpList_load_mid (by rfl) 36 (.tmp 111) (by rfl) _ (1809 + kk * 3) (by rfl) [.float .f64 (ff (1809 + kk * 3)), .float .f64 (ff (1809 + kk * 3 + 1)), .float .f64 (ff (1809 + kk * 3 + 2))] _ (G3.out _ (((X0.out.trans (Ext.alloc _ _)).trans (Ext.alloc _ _)).trans (Ext.alloc _ _))) Try.underlying36 (by rfl) I36.out ?_))
                obtain ⟨f0, f1, f2, f3, fx⟩ := four_new W0 #[.float .f64 (ff (kk * 3)), .float .f64 (ff (kk * 3 + 1)), .float .f64 (ff (kk * 3 + 2))] #[.float .f64 (ff (603 + kk * 3)), .float .f64 (ff (603 + kk * 3 + 1)), .float .f64 (ff (603 + kk * 3 + 2))] #[.float .f64 (ff (1206 + kk * 3)), .float .f64 (ff (1206 + kk * 3 + 1)), .float .f64 (ff (1206 + kk * 3 + 2))] #[.float .f64 (ff (1809 + kk * 3)), .float .f64 (ff (1809 + kk * 3 + 1)), .float .f64 (ff (1809 + kk * 3 + 2))] 36
                generalize ((((W0.alloc (.cells #[.float .f64 (ff (kk * 3)), .float .f64 (ff (kk * 3 + 1)), .float .f64 (ff (kk * 3 + 2))] 36)).alloc (.cells #[.float .f64 (ff (603 + kk * 3)), .float .f64 (ff (603 + kk * 3 + 1)), .float .f64 (ff (603 + kk * 3 + 2))] 36)).alloc (.cells #[.float .f64 (ff (1206 + kk * 3)), .float .f64 (ff (1206 + kk * 3 + 1)), .float .f64 (ff (1206 + kk * 3 + 2))] 36)).alloc (.cells #[.float .f64 (ff (1809 + kk * 3)), .float .f64 (ff (1809 + kk * 3 + 1)), .float .f64 (ff (1809 + kk * 3 + 2))] 36)) = Y at f0 f1 f2 f3 fx ⊢
                have HX : Box (Ext wc Y) := ⟨X0.out.trans fx⟩
                have c00 := f0 0 _ rfl
                have c01 := f0 1 _ rfl
                have c02 := f0 2 _ rfl
                have c11 := f1 1 _ rfl
                have c12 := f1 2 _ rfl
                have c22 := f2 2 _ rfl
                have c30 := f3 0 _ rfl
                have c31 := f3 1 _ rfl
                have c32 := f3 2 _ rfl
                clear f0 f1 f2 f3 fx G0 G1 G2 G3 I36 X0 hk0 hk1
                go_wp2_with (first
                | (refine wpList_fmul (by rfl) 22 22 (.tmp 113) (.tmp 115) (by rfl) _ _ (by rfl) (by rfl) ?_; intro r116 n116 H116)
                    | (refine wpList_fmul (by rfl) 22 22 (.tmp 117) (.tmp 119) (by rfl) _ _ (by rfl) (by rfl) ?_; intro r120 n120 H120)
                    | (refine wpList_fadd (by rfl) 22 22 (.tmp 116) (.tmp 120) (by rfl) _ _ (by rfl) (by rfl) ?_; intro r121 n121 H121)
                    | (refine wpList_fmul (by rfl) 22 22 (.tmp 122) (.tmp 124) (by rfl) _ _ (by rfl) (by rfl) ?_; intro r125 n125 H125)
                    | (refine wpList_fmul (by rfl) 22 22 (.tmp 126) (.tmp 128) (by rfl) _ _ (by rfl) (by rfl) ?_; intro r129 n129 H129)
                    | (refine wpList_fadd (by rfl) 22 22 (.tmp 125) (.tmp 129) (by rfl) _ _ (by rfl) (by rfl) ?_; intro r130 n130 H130)
                    | (refine wpList_fmul (by rfl) 22 22 (.tmp 131) (.tmp 133) (by rfl) _ _ (by rfl) (by rfl) ?_; intro r134 n134 H134)
                    | (refine wpList_fadd (by rfl) 22 22 (.tmp 130) (.tmp 134) (by rfl) _ _ (by rfl) (by rfl) ?_; intro r135 n135 H135)
                    | (refine wpList_fmul (by rfl) 22 22 (.tmp 136) (.tmp 138) (by rfl) _ _ (by rfl) (by rfl) ?_; intro r139 n139 H139)
                    | (refine wpList_fmul (by rfl) 22 22 (.tmp 140) (.tmp 142) (by rfl) _ _ (by rfl) (by rfl) ?_; intro r143 n143 H143)
                    | (refine wpList_fadd (by rfl) 22 22 (.tmp 139) (.tmp 143) (by rfl) _ _ (by rfl) (by rfl) ?_; intro r144 n144 H144)
                    | (refine wpList_fmul (by rfl) 22 22 (.tmp 145) (.tmp 147) (by rfl) _ _ (by rfl) (by rfl) ?_; intro r148 n148 H148)
                    | (refine wpList_fadd (by rfl) 22 22 (.tmp 144) (.tmp 148) (by rfl) _ _ (by rfl) (by rfl) ?_; intro r149 n149 H149)
                    | (refine wpList_fmul (by rfl) 22 22 (.tmp 150) (.tmp 152) (by rfl) _ _ (by rfl) (by rfl) ?_; intro r153 n153 H153)
                    | (refine wpList_fadd (by rfl) 22 22 (.tmp 149) (.tmp 153) (by rfl) _ _ (by rfl) (by rfl) ?_; intro r154 n154 H154))
                go_meet
                exact ⟨_, _, _, rfl, rfl, rfl, HX.out.trans (Ext.drewN _ _), HMV.out _ (by rw [HK.out, ← H21.out, H121.out, H116.out, H120.out, H135.out, H130.out, H125.out, H129.out, H134.out, H154.out, H149.out, H144.out, H139.out, H143.out, H148.out, H153.out])⟩
        case rest =>
          obtain ⟨m', p', d', rfl, rfl, rfl, hxx, hmv⟩ := hcut
          have HF : Box (MHead (fun i => cl (kv gb ff dd i)) RES w ff dd ss sv rv (200 - NX) (.float .f64 m') (.float .f64 p') (.float .f64 d') (.int .i64 (NX : Nat)) wc) := ⟨by
            obtain ⟨i', hi', ei⟩ := HD.out
            obtain ⟨j', hj', ej⟩ := HD'.out
            have h := HN.out _ hmv
            rw [ei, ej] at h
            exact ⟨NX, i', j', m', p', d', rfl, rfl, rfl, rfl, hi', hj', MR_ext HM.out hxx, h, by omega⟩⟩
          clear hxx hmv HD HD' HN MV HM hc0 hc1 hc2 hd0 hd1 hd2 k1c k2c
          go_wp2
          go_roundg (200 - NX)
          case measure => omega
          case rel => exact HF.out
    · have HF : Box ((cl m, cl p, cl d) = RES) := ⟨toCome_done HT.out ht⟩
      clear HT
      have s3 := HM.out.2.2.2.2.1 3 (by omega)
      have tr := HM.out.2.2.2.2.2
      have X5 := Box.mk HM.out.1
      obtain ⟨q0, g0⟩ := tr 0 (by omega)
      obtain ⟨q1, g1⟩ := tr 1 (by omega)
      obtain ⟨q2, g2⟩ := tr 2 (by omega)
      obtain ⟨q3, g3⟩ := tr 3 (by omega)
      obtain ⟨v0, q0⟩ := Option.isSome_iff_exists.1 q0
      obtain ⟨v1, q1⟩ := Option.isSome_iff_exists.1 q1
      obtain ⟨v2, q2⟩ := Option.isSome_iff_exists.1 q2
      obtain ⟨v3, q3⟩ := Option.isSome_iff_exists.1 q3
      simp only [Nat.zero_add] at q0 q1 q2 q3 g0 g1 g2 g3
      clear tr HM HS HR WS WR
      go_wp2_with fail
      have r3 : ((((wr.setCell ⟨w.heap.size + 1 + 1 + 1, 0, none⟩ (.float .f64 m)).setCell ⟨w.heap.size + 1 + 1 + 1, 1, none⟩ (.float .f64 p)).setCell ⟨w.heap.size + 1 + 1 + 1, 2, none⟩ (.float .f64 d)).setCell ⟨w.heap.size + 1 + 1 + 1, 3, none⟩ (.float .f64 (ss 3))).cell? ⟨w.heap.size + 1 + 1 + 1, 3, none⟩ = some (.float .f64 (ss 3)) :=
        cell_set_eq _ (by rw [cell_set_ne _ _ _ _ _ (by omega), cell_set_ne _ _ _ _ _ (by omega), cell_set_ne _ _ _ _ _ (by omega)]; exact q3)
      have r2 : ((((wr.setCell ⟨w.heap.size + 1 + 1 + 1, 0, none⟩ (.float .f64 m)).setCell ⟨w.heap.size + 1 + 1 + 1, 1, none⟩ (.float .f64 p)).setCell ⟨w.heap.size + 1 + 1 + 1, 2, none⟩ (.float .f64 d)).setCell ⟨w.heap.size + 1 + 1 + 1, 3, none⟩ (.float .f64 (ss 3))).cell? ⟨w.heap.size + 1 + 1 + 1, 2, none⟩ = some (.float .f64 d) := by
        rw [cell_set_ne _ _ _ _ _ (by omega)]; exact cell_set_eq _ (by rw [cell_set_ne _ _ _ _ _ (by omega), cell_set_ne _ _ _ _ _ (by omega)]; exact q2)
      have r1 : ((((wr.setCell ⟨w.heap.size + 1 + 1 + 1, 0, none⟩ (.float .f64 m)).setCell ⟨w.heap.size + 1 + 1 + 1, 1, none⟩ (.float .f64 p)).setCell ⟨w.heap.size + 1 + 1 + 1, 2, none⟩ (.float .f64 d)).setCell ⟨w.heap.size + 1 + 1 + 1, 3, none⟩ (.float .f64 (ss 3))).cell? ⟨w.heap.size + 1 + 1 + 1, 1, none⟩ = some (.float .f64 p) := by
        rw [cell_set_ne _ _ _ _ _ (by omega), cell_set_ne _ _ _ _ _ (by omega)]; exact cell_set_eq _ (by rw [cell_set_ne _ _ _ _ _ (by omega)]; exact q1)
      have r0 : ((((wr.setCell ⟨w.heap.size + 1 + 1 + 1, 0, none⟩ (.float .f64 m)).setCell ⟨w.heap.size + 1 + 1 + 1, 1, none⟩ (.float .f64 p)).setCell ⟨w.heap.size + 1 + 1 + 1, 2, none⟩ (.float .f64 d)).setCell ⟨w.heap.size + 1 + 1 + 1, 3, none⟩ (.float .f64 (ss 3))).cell? ⟨w.heap.size + 1 + 1 + 1, 0, none⟩ = some (.float .f64 m) := by
        rw [cell_set_ne _ _ _ _ _ (by omega), cell_set_ne _ _ _ _ _ (by omega), cell_set_ne _ _ _ _ _ (by omega)]; exact cell_set_eq _ q0
      have xf : Ext w ((((wr.setCell ⟨w.heap.size + 1 + 1 + 1, 0, none⟩ (.float .f64 m)).setCell ⟨w.heap.size + 1 + 1 + 1, 1, none⟩ (.float .f64 p)).setCell ⟨w.heap.size + 1 + 1 + 1, 2, none⟩ (.float .f64 d)).setCell ⟨w.heap.size + 1 + 1 + 1, 3, none⟩ (.float .f64 (ss 3))) :=
        (((RowKit.Below.setCell X5.out (p := ⟨w.heap.size + 1 + 1 + 1, 0, none⟩) (by show w.heap.size ≤ w.heap.size + 1 + 1 + 1; omega) _).setCell (p := ⟨w.heap.size + 1 + 1 + 1, 1, none⟩) (by show w.heap.size ≤ w.heap.size + 1 + 1 + 1; omega) _).setCell (p := ⟨w.heap.size + 1 + 1 + 1, 2, none⟩) (by show w.heap.size ≤ w.heap.size + 1 + 1 + 1; omega) _).setCell (p := ⟨w.heap.size + 1 + 1 + 1, 3, none⟩) (by show w.heap.size ≤ w.heap.size + 1 + 1 + 1; omega) _
      clear q0 q1 q2 q3 g0 g1 g2 g3
      generalize ((((wr.setCell ⟨w.heap.size + 1 + 1 + 1, 0, none⟩ (.float .f64 m)).setCell ⟨w.heap.size + 1 + 1 + 1, 1, none⟩ (.float .f64 p)).setCell ⟨w.heap.size + 1 + 1 + 1, 2, none⟩ (.float .f64 d)).setCell ⟨w.heap.size + 1 + 1 + 1, 3, none⟩ (.float .f64 (ss 3))) = w6 at r0 r1 r2 r3 xf ⊢
      exact bodyPost_ret (v := .agg #[.float .f64 m, .float .f64 p, .float .f64 d, .float .f64 (ss 3)]) (by simp [results, Try.results23, go_sem, r0, r1, r2, r3]) rfl ⟨m, p, d, rfl, xf, HF.out⟩
end Go.Proofs.Qxb6601308a.Ad
