import Derived.Test.Qxb6601308aAfter
import Derived.Deep.LoopGhost
import Derived.Deep.DeepCutAuto

namespace Go.Proofs.Qxb6601308a.Ad
set_option linter.unusedVariables false
open Go.ChangeShapes Go.WideShapes Go.ChangeAt Go.RowKit Rg
open Qxb6601308a.Fl (cl fmul fadd Box)

attribute [local go_sem] Fl.run_store_float
/-- the events lie there -/
def EvsAt (w : World) (b o : Nat) (l : List E) : Prop := ∀ (i : Nat) (e : E), l[i]? = some e →
  w.cell? ⟨b, o + i * 3, none⟩ = some (.int .i64 e.cyc) ∧ w.cell? ⟨b, o + i * 3 + 1, none⟩ = some (.float .f64 e.ca) ∧ w.cell? ⟨b, o + i * 3 + 2, none⟩ = some (.bool e.act)
theorem evs_hd {w : World} {b o : Nat} {l : List E} (h : EvsAt w b o l) (hl : 1 ≤ l.length) :
    w.cell? ⟨b, o, none⟩ = some (.int .i64 (hd l).cyc) ∧ w.cell? ⟨b, o + 1, none⟩ = some (.float .f64 (hd l).ca) ∧ w.cell? ⟨b, o + 2, none⟩ = some (.bool (hd l).act) := by
  match l, hl with
  | a :: l, _ => have := h 0 a rfl; simpa [hd] using this
theorem evs_tail {w : World} {b o : Nat} {l : List E} (h : EvsAt w b o l) : EvsAt w b (o + 3) l.tail := by
  intro i e he
  match l, he with
  | a :: l, he =>
    have := h (i + 1) e (by simpa using he)
    rwa [show o + (i + 1) * 3 = o + 3 + i * 3 from by omega] at this

theorem isub (t c : Nat) (h : c ≤ t) (ht : t ≤ 1000000) (w : World) : (binOp .sub 3 (.int .i64 (t : Nat)) (.int .i64 (c : Nat))).run Try.prog w = .ok (.int .i64 ((t - c : Nat) : Int)) w := by
  have e : IntKind.i64.wrap ((t : Int) - (c : Int)) = ((t - c : Nat) : Int) := by
    rw [IntKind.wrap_i64]; omega
  go_simp
theorem idx39 (b o i : Nat) (h : i < 200) (w : World) : (Instr.indexAt 39 (.pointer (some ⟨b, o, none⟩)) (.int .i64 (i : Nat))).run Try.prog w = .ok (.pointer (some ⟨b, o + i, none⟩)) w := by
  go_simp
  intro h'; omega

/-- what holds at a round's head -/
def AtHead (K : Nat → Option Nat) (RES : Option Nat × Option Nat × Option Nat) (w : World) (bs br : Nat) (gk : Nat) (v2 v3 v8 v9 v10 v11 : Value) (wr : World) : Prop :=
  ∃ (t os or cs cr m p d nd : Nat) (s r : List E), v2 = .slice (some ⟨bs, os, none⟩) s.length cs ∧ v3 = .slice (some ⟨br, or, none⟩) r.length cr ∧ v8 = .float .f64 m ∧ v9 = .float .f64 p ∧ v10 = .float .f64 d ∧ v11 = .int .i64 t ∧
    1 ≤ s.length ∧ 1 ≤ r.length ∧ s.length ≤ cs ∧ r.length ≤ cr ∧ cs ≤ 1048576 ∧ cr ≤ 1048576 ∧ EvsAt w bs os s ∧ EvsAt w br or r ∧ ToCome K RES t s r (cl m, cl p, cl d) ∧ wr = w.drewN nd ∧ gk + t = 200

set_option maxRecDepth 100000 in
set_option maxHeartbeats 4000000 in
theorem adv38 (bc b2 bs br os or cs cr m p d : Nat) (kf : Nat → Nat) (s r : List E) (w : World) (hK : ∀ i, i < 3617 → w.cell? ⟨bc, i, none⟩ = some (.float .f64 (kf i)))
    (hs : EvsAt w bs os s) (hr : EvsAt w br or r) (ls : s.length ≤ cs) (lr : r.length ≤ cr) (lcs : cs ≤ 1048576) (lcr : cr ≤ 1048576) (os0 : Ok 0 s) (or0 : Ok 0 r)
    (c0 : w.cell? ⟨b2, 0, none⟩ = some (.float .f64 m)) (c1 : w.cell? ⟨b2, 1, none⟩ = some (.float .f64 p)) (c2 : w.cell? ⟨b2, 2, none⟩ = some (.float .f64 d))
    (f0 : w.frozen? ⟨b2, 0, none⟩ = false) (f1 : w.frozen? ⟨b2, 1, none⟩ = false) (f2 : w.frozen? ⟨b2, 2, none⟩ = false) :
    Calls Try.prog 38 #[.pointer (some ⟨bc, 0, none⟩), .pointer (some ⟨b2, 0, none⟩), .slice (some ⟨bs, os, none⟩) s.length cs, .slice (some ⟨br, or, none⟩) r.length cr] w fun e w' => ∃ m' p' d' n', e = .returned (.tuple #[]) ∧ w' = (((w.drewN n').setCell ⟨b2, 0, none⟩ (.float .f64 m')).setCell ⟨b2, 1, none⟩ (.float .f64 p')).setCell ⟨b2, 2, none⟩ (.float .f64 d') ∧ (cl m', cl p', cl d') = adv (fun i => cl (kf i)) 200 0 s r (cl m, cl p, cl d) := by
  have hT : ToCome (fun i => cl (kf i)) (adv (fun i => cl (kf i)) 200 0 s r (cl m, cl p, cl d)) 0 s r (cl m, cl p, cl d) := ⟨by omega, fun _ => ⟨os0, or0⟩, 200, by omega, rfl⟩
  generalize adv (fun i => cl (kf i)) 200 0 s r (cl m, cl p, cl d) = RES at hT ⊢
  have l1 := os0.1
  have l2 := or0.1
  go_enter Try.func38, Try.ntmps38
  go_wp2
  go_quiet (fail)
  go_wp2
  go_loopg [2, 3, 8, 9, 10, 11] 200 (fun gk v2 v3 v8 v9 v10 v11 wr => AtHead (fun i => cl (kf i)) RES w bs br gk v2 v3 v8 v9 v10 v11 wr)
  case atStart => exact ⟨0, os, or, cs, cr, m, p, d, nq, s, r, rfl, rfl, rfl, rfl, rfl, rfl, l1, l2, ls, lr, lcs, lcr, hs, hr, hT, rfl, rfl⟩
  case round =>
    clear hT l1 l2 os0 or0 ls lr lcs lcr hs hr
    obtain ⟨t, os, or, cs, cr, m, p, d, nd, s, r, rfl, rfl, rfl, rfl, rfl, rfl, l1, l2, ls, lr, lcs, lcr, hs, hr, hT, rfl, hgk⟩ := hrel
    by_cases ht : t < 200
    · obtain ⟨k1, k2⟩ := hT.2.1 ht
      have HT : Box (ToCome (fun i => cl (kf i)) RES t s r (cl m, cl p, cl d)) := ⟨hT⟩
      have q1 := ok_second k1 ht
      have q2 := ok_second k2 ht
      obtain ⟨hc0, hc1, hc2⟩ := evs_hd hs l1
      obtain ⟨hd0, hd1, hd2⟩ := evs_hd hr l2
      have k1c := k1.2.1
      have k2c := k2.2.1
      clear hT
      go_upto_if 32 with fail
      go_cut [12] (fun v wx => v = .int .i64 (second s) ∧ wx = w.drewN nd)
      case first =>
        by_cases h : 1 < s.length
        · have e := (evs_hd (evs_tail hs) (by rw [List.length_tail]; omega)).1
          rw [← second_tail h] at e
          go_wp2
          go_meet
          exact ⟨rfl, rfl⟩
        · have e := second_one h
          go_wp2
          go_meet
          exact ⟨by rw [e]; rfl, rfl⟩
      case rest =>
        obtain ⟨rfl, rfl⟩ := hcut
        go_upto_if 39 with fail
        go_cut [12] (fun v wx => v = .int .i64 (nextOf s r) ∧ wx = w.drewN nd)
        case first =>
          by_cases h : 1 < r.length
          · have e := (evs_hd (evs_tail hr) (by rw [List.length_tail]; omega)).1
            rw [← second_tail h] at e
            by_cases hm : second s ≤ second r
            · have hm' : ¬ (second r : Int) < (second s : Int) := by omega
              go_wp2
              all_goals go_meet
              all_goals exact ⟨by unfold nextOf; rw [Nat.min_eq_left hm], rfl⟩
            · have hm' : (second r : Int) < (second s : Int) := by omega
              go_wp2
              all_goals go_meet
              all_goals exact ⟨by unfold nextOf; rw [Nat.min_eq_right (by omega)], rfl⟩
          · have e := second_one h
            go_wp2
            go_meet
            exact ⟨by unfold nextOf; rw [e, Nat.min_eq_left q1.2], rfl⟩
        case rest =>
          obtain ⟨rfl, rfl⟩ := hcut
          go_upto_region 8 with fail
          have i1 : (0 : Int) < (s.length : Int) := by omega
          have i2 : (0 : Int) < (r.length : Int) := by omega
          go_quiet (fail)
          go_upto_region 9 with fail
          go_cut [59] (fun v wx => v = .bool ((hd s).act && (hd r).act) ∧ wx = w.drewN (nd + nq))
          case first =>
            cases ha : (hd s).act with
            | true =>
              rw [ha] at hc2
              cases hb : (hd r).act with
              | true => rw [hb] at hd2; go_wp2; go_meet; exact ⟨by rw [ha, hb]; rfl, rfl⟩
              | false => rw [hb] at hd2; go_wp2; go_meet; exact ⟨by rw [ha, hb]; rfl, rfl⟩
            | false => rw [ha] at hc2; go_wp2; go_meet; exact ⟨by rw [ha]; rfl, rfl⟩
          case rest =>
            obtain ⟨rfl, rfl⟩ := hcut
            go_upto_if 59 with fail
            go_cut [8, 9, 10] (fun v8 v9 v10 wx => ∃ m' p' d' n', v8 = .float .f64 m' ∧ v9 = .float .f64 p' ∧ v10 = .float .f64 d' ∧ wx = w.drewN n' ∧ (cl m', cl p', cl d') = moved (fun i => cl (kf i)) t (nextOf s r) s r (cl m, cl p, cl d))
            case first =>
              cases hab : ((hd s).act && (hd r).act) with
              | false =>
                go_wp2
                go_meet
                exact ⟨m, p, d, _, rfl, rfl, rfl, rfl, by unfold moved; rw [hab]; rfl⟩
              | true =>
                have HAB : Box (((hd s).act && (hd r).act) = true) := ⟨hab⟩
                go_upto_region 10 with fail
                clear hab
                refine wp_region_tbl [(60, Ex (.pointer (some ⟨bc, 0, none⟩))), (61, Ex (.pointer (some ⟨bc, 0, none⟩))), (62, Ex (.pointer (some ⟨bc, 0, none⟩))), (63, Ex (.float .f64 (kf (0)))), (64, Ex (.pointer (some ⟨bs, os, none⟩))), (65, Ex (.pointer (some ⟨bs, os, none⟩))), (66, Ex (.pointer (some ⟨bs, os + 1, none⟩))), (67, Ex (.float .f64 ((hd s).ca))), (68, Fl (fmul (cl (kf (0))) (cl ((hd s).ca)))), (69, Ex (.pointer (some ⟨bc, 0, none⟩))), (70, Ex (.int .i64 ((t : Nat)))), (71, Ex (.pointer (some ⟨bs, os, none⟩))), (72, Ex (.pointer (some ⟨bs, os, none⟩))), (73, Ex (.pointer (some ⟨bs, os, none⟩))), (74, Ex (.int .i64 (((hd s).cyc : Nat)))), (75, Ex (.int .i64 (((t - (hd s).cyc : Nat) : Int)))), (76, Ex (.pointer (some ⟨bc, 0, none⟩))), (77, Ex (.pointer (some ⟨bc, 3217, none⟩))), (78, Ex (.pointer (some ⟨bc, 3217 + (t - (hd s).cyc), none⟩))), (79, Ex (.float .f64 (kf (3217 + (t - (hd s).cyc))))), (80, Fl (fmul (fmul (cl (kf (0))) (cl ((hd s).ca))) (cl (kf (3217 + (t - (hd s).cyc)))))), (81, Ex (.pointer (some ⟨br, or, none⟩))), (82, Ex (.pointer (some ⟨br, or, none⟩))), (83, Ex (.pointer (some ⟨br, or + 1, none⟩))), (84, Ex (.float .f64 ((hd r).ca))), (85, Fl (fmul (fmul (fmul (cl (kf (0))) (cl ((hd s).ca))) (cl (kf (3217 + (t - (hd s).cyc))))) (cl ((hd r).ca)))), (86, Ex (.pointer (some ⟨bc, 0, none⟩))), (87, Ex (.int .i64 ((t : Nat)))), (88, Ex (.pointer (some ⟨br, or, none⟩))), (89, Ex (.pointer (some ⟨br, or, none⟩))), (90, Ex (.pointer (some ⟨br, or, none⟩))), (91, Ex (.int .i64 (((hd r).cyc : Nat)))), (92, Ex (.int .i64 (((t - (hd r).cyc : Nat) : Int)))), (93, Ex (.pointer (some ⟨bc, 0, none⟩))), (94, Ex (.pointer (some ⟨bc, 3417, none⟩))), (95, Ex (.pointer (some ⟨bc, 3417 + (t - (hd r).cyc), none⟩))), (96, Ex (.float .f64 (kf (3417 + (t - (hd r).cyc))))), (97, Fl (fmul (fmul (fmul (fmul (cl (kf (0))) (cl ((hd s).ca))) (cl (kf (3217 + (t - (hd s).cyc))))) (cl ((hd r).ca))) (cl (kf (3417 + (t - (hd r).cyc)))))), (15, Fl (fmul (fmul (fmul (fmul (cl (kf (0))) (cl ((hd s).ca))) (cl (kf (3217 + (t - (hd s).cyc))))) (cl ((hd r).ca))) (cl (kf (3417 + (t - (hd r).cyc))))))] [(0, Ex (.pointer (some ⟨bc, 0, none⟩))), (11, Ex (.int .i64 ((t : Nat)))), (13, Ex (.pointer (some ⟨bs, os, none⟩))), (14, Ex (.pointer (some ⟨br, or, none⟩)))] 150 rfl (by kernel_rfl) (by kernel_rfl) (by kernel_rfl) (by rfl) (by rfl) ?hin ?hs ?post
                case hin => simp [Ex, Act.eval]
                case hs =>
                  refine stepsOk_cons (st_move (fun _ h => h)) ?_
                  refine stepsOk_cons (st_nil (fun _ h => h) rfl) ?_
                  refine stepsOk_cons (st_field (fun _ h => h) (fld63_0 bc (0)) rfl) ?_
                  refine stepsOk_cons (st_load (fun _ h => h) (fun n => ldf n (by exact hK (0) (by omega))) rfl) ?_
                  refine stepsOk_cons (st_move (fun _ h => h)) ?_
                  refine stepsOk_cons (st_nil (fun _ h => h) rfl) ?_
                  refine stepsOk_cons (st_field (fun _ h => h) (fld66_1 bs (os)) rfl) ?_
                  refine stepsOk_cons (st_load (fun _ h => h) (fun n => ldf n (by exact hc1)) rfl) ?_
                  refine stepsOk_cons (st_fmul fl_ex fl_ex (fun _ h => h)) ?_
                  refine stepsOk_cons (st_move (fun _ h => h)) ?_
                  refine stepsOk_cons (st_move (fun _ h => h)) ?_
                  refine stepsOk_cons (st_move (fun _ h => h)) ?_
                  refine stepsOk_cons (st_nil (fun _ h => h) rfl) ?_
                  refine stepsOk_cons (st_field (fun _ h => h) (fld66_0 bs (os)) rfl) ?_
                  refine stepsOk_cons (st_load (fun _ h => h) (fun n => ldi n (by exact hc0)) rfl) ?_
                  refine stepsOk_cons (st_sub (fun _ h => h) (fun _ h => h) (isub t (hd s).cyc k1c (by omega)) rfl) ?_
                  refine stepsOk_cons (st_nil (fun _ h => h) rfl) ?_
                  refine stepsOk_cons (st_field (fun _ h => h) (fld63_5 bc (0)) rfl) ?_
                  refine stepsOk_cons (st_index (fun _ h => h) (fun _ h => h) (idx39 bc (3217) (t - (hd s).cyc) (by omega)) rfl) ?_
                  refine stepsOk_cons (st_load (fun _ h => h) (fun n => ldf n (by exact hK (3217 + (t - (hd s).cyc)) (by omega))) rfl) ?_
                  refine stepsOk_cons (st_fmul (fun _ h => h) fl_ex (fun _ h => h)) ?_
                  refine stepsOk_cons (st_move (fun _ h => h)) ?_
                  refine stepsOk_cons (st_nil (fun _ h => h) rfl) ?_
                  refine stepsOk_cons (st_field (fun _ h => h) (fld66_1 br (or)) rfl) ?_
                  refine stepsOk_cons (st_load (fun _ h => h) (fun n => ldf n (by exact hd1)) rfl) ?_
                  refine stepsOk_cons (st_fmul (fun _ h => h) fl_ex (fun _ h => h)) ?_
                  refine stepsOk_cons (st_move (fun _ h => h)) ?_
                  refine stepsOk_cons (st_move (fun _ h => h)) ?_
                  refine stepsOk_cons (st_move (fun _ h => h)) ?_
                  refine stepsOk_cons (st_nil (fun _ h => h) rfl) ?_
                  refine stepsOk_cons (st_field (fun _ h => h) (fld66_0 br (or)) rfl) ?_
                  refine stepsOk_cons (st_load (fun _ h => h) (fun n => ldi n (by exact hd0)) rfl) ?_
                  refine stepsOk_cons (st_sub (fun _ h => h) (fun _ h => h) (isub t (hd r).cyc k2c (by omega)) rfl) ?_
                  refine stepsOk_cons (st_nil (fun _ h => h) rfl) ?_
                  refine stepsOk_cons (st_field (fun _ h => h) (fld63_6 bc (0)) rfl) ?_
                  refine stepsOk_cons (st_index (fun _ h => h) (fun _ h => h) (idx39 bc (3417) (t - (hd r).cyc) (by omega)) rfl) ?_
                  refine stepsOk_cons (st_load (fun _ h => h) (fun n => ldf n (by exact hK (3417 + (t - (hd r).cyc)) (by omega))) rfl) ?_
                  refine stepsOk_cons (st_fmul (fun _ h => h) fl_ex (fun _ h => h)) ?_
                  refine stepsOk_cons (st_assign (fun _ h => h)) ?_
                  exact trivial
                case post =>
                  simp only [forOut_ex, forOut_fl, forOut_nil]
                  intro r68 _ r80 _ r85 _ r97 _ r15 h15 n
                  have H15 : Box (cl r15 = synC (fun i => cl (kf i)) t (hd s) (hd r)) := ⟨h15⟩
                  clear h15
                  simp only [Act.put, List.setIfInBounds_toArray, List.set_cons_succ, List.set_cons_zero]
                  have hnx : t < nextOf s r ∧ nextOf s r ≤ 200 := by unfold nextOf; omega
                  go_wp2_with fail
                  rw [show ((nextOf s r : Nat) : Int) - (t : Int) = ((nextOf s r - t : Nat) : Int) from by omega]
                  refine (after40 bc (nextOf s r - t) m p d r15 kf _ (by omega) (by exact hK)).mono ?_
                  rintro e w' ⟨m', p', d', n', rfl, rfl, hres⟩
                  have HR : Box ((cl m', cl p', cl d') = moved (fun i => cl (kf i)) t (nextOf s r) s r (cl m, cl p, cl d)) := ⟨by
                    unfold moved; rw [HAB.out, if_pos rfl, hres, H15.out]⟩
                  clear hres
                  go_wp2_with fail
                  go_meet
                  exact ⟨m', p', d', _, rfl, rfl, rfl, rfl, HR.out⟩
            case rest =>
              obtain ⟨m', p', d', n', rfl, rfl, rfl, rfl, hmv⟩ := hcut
              have HN : Box (ToCome (fun i => cl (kf i)) RES (nextOf s r) (stepOn (nextOf s r) s) (stepOn (nextOf s r) r) (cl m', cl p', cl d')) := ⟨by rw [hmv]; exact toCome_step HT.out ht⟩
              have hnx : t < nextOf s r ∧ nextOf s r ≤ 200 := by unfold nextOf; omega
              clear hmv HT hc0 hc1 hc2 hd0 hd1 hd2 k1 k2 k1c k2c i1 i2
              go_upto_region 13 with fail
              by_cases x1 : 1 < s.length
              · have c1e := (evs_hd (evs_tail hs) (by rw [List.length_tail]; omega)).1
                rw [← second_tail x1] at c1e
                by_cases y1 : second s = nextOf s r
                · have Y1 : Box (second s = nextOf s r) := ⟨y1⟩
                  have z1 : ((second s : Int) == (nextOf s r : Int)) = true := by rw [beq_iff_eq]; omega
                  clear y1
                  by_cases x2 : 1 < r.length
                  · have c2e := (evs_hd (evs_tail hr) (by rw [List.length_tail]; omega)).1
                    rw [← second_tail x2] at c2e
                    by_cases y2 : second r = nextOf s r
                    · have Y2 : Box (second r = nextOf s r) := ⟨y2⟩
                      have z2 : ((second r : Int) == (nextOf s r : Int)) = true := by rw [beq_iff_eq]; omega
                      clear y2
                      go_wp2
                      go_roundg (200 - nextOf s r)
                      case measure => omega
                      case rel => exact ⟨nextOf s r, os + 3, or + 3, cs - 1, cr - 1, m', p', d', n', s.tail, r.tail, (by rw [List.length_tail]), (by rw [List.length_tail]), rfl, rfl, rfl, rfl, (by rw [List.length_tail]; omega), (by rw [List.length_tail]; omega), (by rw [List.length_tail]; omega), (by rw [List.length_tail]; omega), (by omega), (by omega), (evs_tail hs), (evs_tail hr), (by have h := HN.out; rw [stepOn_yes x1 Y1.out, stepOn_yes x2 Y2.out] at h; exact h), rfl, by omega⟩
                    · have Y2 : Box (¬ second r = nextOf s r) := ⟨y2⟩
                      have z2 : ((second r : Int) == (nextOf s r : Int)) = false := by rw [beq_eq_false_iff_ne]; omega
                      clear y2
                      go_wp2
                      go_roundg (200 - nextOf s r)
                      case measure => omega
                      case rel => exact ⟨nextOf s r, os + 3, or, cs - 1, cr, m', p', d', n', s.tail, r, (by rw [List.length_tail]), rfl, rfl, rfl, rfl, rfl, (by rw [List.length_tail]; omega), l2, (by rw [List.length_tail]; omega), lr, (by omega), (by omega), (evs_tail hs), hr, (by have h := HN.out; rw [stepOn_yes x1 Y1.out, stepOn_no2 Y2.out] at h; exact h), rfl, by omega⟩
                  · go_wp2
                    go_roundg (200 - nextOf s r)
                    case measure => omega
                    case rel => exact ⟨nextOf s r, os + 3, or, cs - 1, cr, m', p', d', n', s.tail, r, (by rw [List.length_tail]), rfl, rfl, rfl, rfl, rfl, (by rw [List.length_tail]; omega), l2, (by rw [List.length_tail]; omega), lr, (by omega), (by omega), (evs_tail hs), hr, (by have h := HN.out; rw [stepOn_yes x1 Y1.out, stepOn_no1 x2] at h; exact h), rfl, by omega⟩
                · have Y1 : Box (¬ second s = nextOf s r) := ⟨y1⟩
                  have z1 : ((second s : Int) == (nextOf s r : Int)) = false := by rw [beq_eq_false_iff_ne]; omega
                  clear y1
                  by_cases x2 : 1 < r.length
                  · have c2e := (evs_hd (evs_tail hr) (by rw [List.length_tail]; omega)).1
                    rw [← second_tail x2] at c2e
                    by_cases y2 : second r = nextOf s r
                    · have Y2 : Box (second r = nextOf s r) := ⟨y2⟩
                      have z2 : ((second r : Int) == (nextOf s r : Int)) = true := by rw [beq_iff_eq]; omega
                      clear y2
                      go_wp2
                      go_roundg (200 - nextOf s r)
                      case measure => omega
                      case rel => exact ⟨nextOf s r, os, or + 3, cs, cr - 1, m', p', d', n', s, r.tail, rfl, (by rw [List.length_tail]), rfl, rfl, rfl, rfl, l1, (by rw [List.length_tail]; omega), ls, (by rw [List.length_tail]; omega), (by omega), (by omega), hs, (evs_tail hr), (by have h := HN.out; rw [stepOn_no2 Y1.out, stepOn_yes x2 Y2.out] at h; exact h), rfl, by omega⟩
                    · have Y2 : Box (¬ second r = nextOf s r) := ⟨y2⟩
                      have z2 : ((second r : Int) == (nextOf s r : Int)) = false := by rw [beq_eq_false_iff_ne]; omega
                      clear y2
                      go_wp2
                      go_roundg (200 - nextOf s r)
                      case measure => omega
                      case rel => exact ⟨nextOf s r, os, or, cs, cr, m', p', d', n', s, r, rfl, rfl, rfl, rfl, rfl, rfl, l1, l2, ls, lr, (by omega), (by omega), hs, hr, (by have h := HN.out; rw [stepOn_no2 Y1.out, stepOn_no2 Y2.out] at h; exact h), rfl, by omega⟩
                  · go_wp2
                    go_roundg (200 - nextOf s r)
                    case measure => omega
                    case rel => exact ⟨nextOf s r, os, or, cs, cr, m', p', d', n', s, r, rfl, rfl, rfl, rfl, rfl, rfl, l1, l2, ls, lr, (by omega), (by omega), hs, hr, (by have h := HN.out; rw [stepOn_no2 Y1.out, stepOn_no1 x2] at h; exact h), rfl, by omega⟩
              · by_cases x2 : 1 < r.length
                · have c2e := (evs_hd (evs_tail hr) (by rw [List.length_tail]; omega)).1
                  rw [← second_tail x2] at c2e
                  by_cases y2 : second r = nextOf s r
                  · have Y2 : Box (second r = nextOf s r) := ⟨y2⟩
                    have z2 : ((second r : Int) == (nextOf s r : Int)) = true := by rw [beq_iff_eq]; omega
                    clear y2
                    go_wp2
                    go_roundg (200 - nextOf s r)
                    case measure => omega
                    case rel => exact ⟨nextOf s r, os, or + 3, cs, cr - 1, m', p', d', n', s, r.tail, rfl, (by rw [List.length_tail]), rfl, rfl, rfl, rfl, l1, (by rw [List.length_tail]; omega), ls, (by rw [List.length_tail]; omega), (by omega), (by omega), hs, (evs_tail hr), (by have h := HN.out; rw [stepOn_no1 x1, stepOn_yes x2 Y2.out] at h; exact h), rfl, by omega⟩
                  · have Y2 : Box (¬ second r = nextOf s r) := ⟨y2⟩
                    have z2 : ((second r : Int) == (nextOf s r : Int)) = false := by rw [beq_eq_false_iff_ne]; omega
                    clear y2
                    go_wp2
                    go_roundg (200 - nextOf s r)
                    case measure => omega
                    case rel => exact ⟨nextOf s r, os, or, cs, cr, m', p', d', n', s, r, rfl, rfl, rfl, rfl, rfl, rfl, l1, l2, ls, lr, (by omega), (by omega), hs, hr, (by have h := HN.out; rw [stepOn_no1 x1, stepOn_no2 Y2.out] at h; exact h), rfl, by omega⟩
                · go_wp2
                  go_roundg (200 - nextOf s r)
                  case measure => omega
                  case rel => exact ⟨nextOf s r, os, or, cs, cr, m', p', d', n', s, r, rfl, rfl, rfl, rfl, rfl, rfl, l1, l2, ls, lr, (by omega), (by omega), hs, hr, (by have h := HN.out; rw [stepOn_no1 x1, stepOn_no1 x2] at h; exact h), rfl, by omega⟩
    · have HF : Box ((cl m, cl p, cl d) = RES) := ⟨toCome_done hT ht⟩
      clear hT hs hr hK hgk
      go_wp2
      go_end0
      exact ⟨m, p, d, nd, rfl, rfl, HF.out⟩
end Go.Proofs.Qxb6601308a.Ad
