import Derived.Test.Qxb6601308aRows
import Derived.WalkKit
import Derived.ProofKit
import Derived.WalkLawsBesides
import Derived.WalkSpells
import Derived.Deep.QuietTactic
import Derived.BigQuiet

import Derived.Test.Qxb6601308aRegion
import Derived.Test.Qxb6601308aPlain
namespace Go.Proofs.Qxb6601308a.Ad
set_option linter.unusedVariables false
open Go.ChangeShapes Go.WideShapes Go.ChangeAt Go.RowKit Rg
open Qxb6601308a.Fl (cl fmul fadd Box)
theorem fld51_0 (b o : Nat) (w : World) : (Instr.fieldAt 51 (.pointer (some ⟨b, o, none⟩)) 0).run Try.prog w = .ok (.pointer (some ⟨b, o, none⟩)) w := by go_simp
theorem fld51_1 (b o : Nat) (w : World) : (Instr.fieldAt 51 (.pointer (some ⟨b, o, none⟩)) 1).run Try.prog w = .ok (.pointer (some ⟨b, o + 1, none⟩)) w := by go_simp
theorem fld51_2 (b o : Nat) (w : World) : (Instr.fieldAt 51 (.pointer (some ⟨b, o, none⟩)) 2).run Try.prog w = .ok (.pointer (some ⟨b, o + 2, none⟩)) w := by go_simp
theorem fld51_3 (b o : Nat) (w : World) : (Instr.fieldAt 51 (.pointer (some ⟨b, o, none⟩)) 3).run Try.prog w = .ok (.pointer (some ⟨b, o + 3, none⟩)) w := by go_simp
theorem fld63_0 (b o : Nat) (w : World) : (Instr.fieldAt 63 (.pointer (some ⟨b, o, none⟩)) 0).run Try.prog w = .ok (.pointer (some ⟨b, o, none⟩)) w := by go_simp
theorem fld63_1 (b o : Nat) (w : World) : (Instr.fieldAt 63 (.pointer (some ⟨b, o, none⟩)) 1).run Try.prog w = .ok (.pointer (some ⟨b, o + 1, none⟩)) w := by go_simp
theorem fld63_2 (b o : Nat) (w : World) : (Instr.fieldAt 63 (.pointer (some ⟨b, o, none⟩)) 2).run Try.prog w = .ok (.pointer (some ⟨b, o + 805, none⟩)) w := by go_simp
theorem fld63_3 (b o : Nat) (w : World) : (Instr.fieldAt 63 (.pointer (some ⟨b, o, none⟩)) 3).run Try.prog w = .ok (.pointer (some ⟨b, o + 1609, none⟩)) w := by go_simp
theorem fld63_4 (b o : Nat) (w : World) : (Instr.fieldAt 63 (.pointer (some ⟨b, o, none⟩)) 4).run Try.prog w = .ok (.pointer (some ⟨b, o + 2413, none⟩)) w := by go_simp
theorem fld63_5 (b o : Nat) (w : World) : (Instr.fieldAt 63 (.pointer (some ⟨b, o, none⟩)) 5).run Try.prog w = .ok (.pointer (some ⟨b, o + 3217, none⟩)) w := by go_simp
theorem fld63_6 (b o : Nat) (w : World) : (Instr.fieldAt 63 (.pointer (some ⟨b, o, none⟩)) 6).run Try.prog w = .ok (.pointer (some ⟨b, o + 3417, none⟩)) w := by go_simp
theorem fld66_0 (b o : Nat) (w : World) : (Instr.fieldAt 66 (.pointer (some ⟨b, o, none⟩)) 0).run Try.prog w = .ok (.pointer (some ⟨b, o, none⟩)) w := by go_simp
theorem fld66_1 (b o : Nat) (w : World) : (Instr.fieldAt 66 (.pointer (some ⟨b, o, none⟩)) 1).run Try.prog w = .ok (.pointer (some ⟨b, o + 1, none⟩)) w := by go_simp
theorem fld66_2 (b o : Nat) (w : World) : (Instr.fieldAt 66 (.pointer (some ⟨b, o, none⟩)) 2).run Try.prog w = .ok (.pointer (some ⟨b, o + 2, none⟩)) w := by go_simp
theorem ldf {w : World} {a : Addr} {r : Nat} (n : Nat) (h : w.cell? a = some (.float .f64 r)) : (Instr.loadAt 22 (.pointer (some a))).run Try.prog (w.drewN n) = .ok (.float .f64 r) (w.drewN n) := by go_simp
theorem ldi {w : World} {a : Addr} {r : Int} (n : Nat) (h : w.cell? a = some (.int .i64 r)) : (Instr.loadAt 3 (.pointer (some a))).run Try.prog (w.drewN n) = .ok (.int .i64 r) (w.drewN n) := by go_simp
theorem stepsOk_cons {P : Program} {w : World} {W : Nat → Value → Prop} {o : Oper} {l : List Oper} (h1 : StepOk P w W o) (h2 : StepsOk P w W l) : StepsOk P w W (o :: l) := ⟨h1, h2⟩

set_option maxRecDepth 100000 in
set_option maxHeartbeats 1000000 in
theorem after40 (bc kk m p d sy : Nat) (kf : Nat → Nat) (w : World) (hk : kk ≤ 200) (hK : ∀ i, i < 3617 → w.cell? ⟨bc, i, none⟩ = some (.float .f64 (kf i))) :
    Calls Try.prog 40 #[.pointer (some ⟨bc, 0, none⟩), .int .i64 kk, .float .f64 m, .float .f64 p, .float .f64 d, .float .f64 sy] w fun e w' => ∃ m' p' d' n, e = .returned (.tuple #[.float .f64 m', .float .f64 p', .float .f64 d']) ∧ w' = w.drewN n ∧ (cl m', cl p', cl d') = afterC (fun i => cl (kf i)) kk (cl m) (cl p) (cl d) (cl sy) := by
  have h0 : (0 : Int) ≤ (kk : Int) := by omega
  have h1 : (kk : Int) < 201 := by omega
  go_enter Try.func40, Try.ntmps40
  go_wp2
  go_quiet (fail)
  go_wp2
  refine wp_region_tbl [(39, Ex (.float .f64 (m))), (40, Ex (.pointer (some ⟨bc, 1 + kk * 4, none⟩))), (41, Ex (.pointer (some ⟨bc, 1 + kk * 4, none⟩))), (42, Ex (.pointer (some ⟨bc, 1 + kk * 4, none⟩))), (43, Ex (.float .f64 (kf (1 + kk * 4)))), (44, Fl (fmul (cl (m)) (cl (kf (1 + kk * 4))))), (45, Ex (.float .f64 (sy))), (46, Ex (.pointer (some ⟨bc, 2413 + kk * 4, none⟩))), (47, Ex (.pointer (some ⟨bc, 2413 + kk * 4, none⟩))), (48, Ex (.pointer (some ⟨bc, 2413 + kk * 4, none⟩))), (49, Ex (.float .f64 (kf (2413 + kk * 4)))), (50, Fl (fmul (cl (sy)) (cl (kf (2413 + kk * 4))))), (51, Fl (fadd (fmul (cl (m)) (cl (kf (1 + kk * 4)))) (fmul (cl (sy)) (cl (kf (2413 + kk * 4)))))), (52, Ex (.float .f64 (m))), (53, Ex (.pointer (some ⟨bc, 1 + kk * 4, none⟩))), (54, Ex (.pointer (some ⟨bc, 1 + kk * 4, none⟩))), (55, Ex (.pointer (some ⟨bc, 1 + kk * 4 + 1, none⟩))), (56, Ex (.float .f64 (kf (1 + kk * 4 + 1)))), (57, Fl (fmul (cl (m)) (cl (kf (1 + kk * 4 + 1))))), (58, Ex (.float .f64 (p))), (59, Ex (.pointer (some ⟨bc, 805 + kk * 4, none⟩))), (60, Ex (.pointer (some ⟨bc, 805 + kk * 4, none⟩))), (61, Ex (.pointer (some ⟨bc, 805 + kk * 4 + 1, none⟩))), (62, Ex (.float .f64 (kf (805 + kk * 4 + 1)))), (63, Fl (fmul (cl (p)) (cl (kf (805 + kk * 4 + 1))))), (64, Fl (fadd (fmul (cl (m)) (cl (kf (1 + kk * 4 + 1)))) (fmul (cl (p)) (cl (kf (805 + kk * 4 + 1)))))), (65, Ex (.float .f64 (sy))), (66, Ex (.pointer (some ⟨bc, 2413 + kk * 4, none⟩))), (67, Ex (.pointer (some ⟨bc, 2413 + kk * 4, none⟩))), (68, Ex (.pointer (some ⟨bc, 2413 + kk * 4 + 1, none⟩))), (69, Ex (.float .f64 (kf (2413 + kk * 4 + 1)))), (70, Fl (fmul (cl (sy)) (cl (kf (2413 + kk * 4 + 1))))), (71, Fl (fadd (fadd (fmul (cl (m)) (cl (kf (1 + kk * 4 + 1)))) (fmul (cl (p)) (cl (kf (805 + kk * 4 + 1))))) (fmul (cl (sy)) (cl (kf (2413 + kk * 4 + 1)))))), (72, Ex (.float .f64 (m))), (73, Ex (.pointer (some ⟨bc, 1 + kk * 4, none⟩))), (74, Ex (.pointer (some ⟨bc, 1 + kk * 4, none⟩))), (75, Ex (.pointer (some ⟨bc, 1 + kk * 4 + 2, none⟩))), (76, Ex (.float .f64 (kf (1 + kk * 4 + 2)))), (77, Fl (fmul (cl (m)) (cl (kf (1 + kk * 4 + 2))))), (78, Ex (.float .f64 (p))), (79, Ex (.pointer (some ⟨bc, 805 + kk * 4, none⟩))), (80, Ex (.pointer (some ⟨bc, 805 + kk * 4, none⟩))), (81, Ex (.pointer (some ⟨bc, 805 + kk * 4 + 2, none⟩))), (82, Ex (.float .f64 (kf (805 + kk * 4 + 2)))), (83, Fl (fmul (cl (p)) (cl (kf (805 + kk * 4 + 2))))), (84, Fl (fadd (fmul (cl (m)) (cl (kf (1 + kk * 4 + 2)))) (fmul (cl (p)) (cl (kf (805 + kk * 4 + 2)))))), (85, Ex (.float .f64 (d))), (86, Ex (.pointer (some ⟨bc, 1609 + kk * 4, none⟩))), (87, Ex (.pointer (some ⟨bc, 1609 + kk * 4, none⟩))), (88, Ex (.pointer (some ⟨bc, 1609 + kk * 4 + 2, none⟩))), (89, Ex (.float .f64 (kf (1609 + kk * 4 + 2)))), (90, Fl (fmul (cl (d)) (cl (kf (1609 + kk * 4 + 2))))), (91, Fl (fadd (fadd (fmul (cl (m)) (cl (kf (1 + kk * 4 + 2)))) (fmul (cl (p)) (cl (kf (805 + kk * 4 + 2))))) (fmul (cl (d)) (cl (kf (1609 + kk * 4 + 2)))))), (92, Ex (.float .f64 (sy))), (93, Ex (.pointer (some ⟨bc, 2413 + kk * 4, none⟩))), (94, Ex (.pointer (some ⟨bc, 2413 + kk * 4, none⟩))), (95, Ex (.pointer (some ⟨bc, 2413 + kk * 4 + 2, none⟩))), (96, Ex (.float .f64 (kf (2413 + kk * 4 + 2)))), (97, Fl (fmul (cl (sy)) (cl (kf (2413 + kk * 4 + 2))))), (98, Fl (fadd (fadd (fadd (fmul (cl (m)) (cl (kf (1 + kk * 4 + 2)))) (fmul (cl (p)) (cl (kf (805 + kk * 4 + 2))))) (fmul (cl (d)) (cl (kf (1609 + kk * 4 + 2))))) (fmul (cl (sy)) (cl (kf (2413 + kk * 4 + 2)))))), (12, Fl (fadd (fmul (cl (m)) (cl (kf (1 + kk * 4)))) (fmul (cl (sy)) (cl (kf (2413 + kk * 4)))))), (13, Fl (fadd (fadd (fmul (cl (m)) (cl (kf (1 + kk * 4 + 1)))) (fmul (cl (p)) (cl (kf (805 + kk * 4 + 1))))) (fmul (cl (sy)) (cl (kf (2413 + kk * 4 + 1)))))), (14, Fl (fadd (fadd (fadd (fmul (cl (m)) (cl (kf (1 + kk * 4 + 2)))) (fmul (cl (p)) (cl (kf (805 + kk * 4 + 2))))) (fmul (cl (d)) (cl (kf (1609 + kk * 4 + 2))))) (fmul (cl (sy)) (cl (kf (2413 + kk * 4 + 2))))))] [(2, Ex (.float .f64 (m))), (3, Ex (.float .f64 (p))), (4, Ex (.float .f64 (d))), (5, Ex (.float .f64 (sy))), (15, Ex (.pointer (some ⟨bc, 1 + kk * 4, none⟩))), (16, Ex (.pointer (some ⟨bc, 805 + kk * 4, none⟩))), (17, Ex (.pointer (some ⟨bc, 1609 + kk * 4, none⟩))), (18, Ex (.pointer (some ⟨bc, 2413 + kk * 4, none⟩)))] 99 rfl (by kernel_rfl) (by kernel_rfl) (by kernel_rfl) (by rfl) (by rfl) ?hin ?hs ?post
  case hin => simp [Ex, Act.eval]
  case hs =>
    clear h0 h1
    refine stepsOk_cons (st_move (fun _ h => h)) ?_
    refine stepsOk_cons (st_move (fun _ h => h)) ?_
    refine stepsOk_cons (st_nil (fun _ h => h) rfl) ?_
    refine stepsOk_cons (st_field (fun _ h => h) (fld51_0 bc (1 + kk * 4)) rfl) ?_
    refine stepsOk_cons (st_load (fun _ h => h) (fun n => ldf n (by exact hK (1 + kk * 4) (by omega))) rfl) ?_
    refine stepsOk_cons (st_fmul fl_ex fl_ex (fun _ h => h)) ?_
    refine stepsOk_cons (st_move (fun _ h => h)) ?_
    refine stepsOk_cons (st_move (fun _ h => h)) ?_
    refine stepsOk_cons (st_nil (fun _ h => h) rfl) ?_
    refine stepsOk_cons (st_field (fun _ h => h) (fld51_0 bc (2413 + kk * 4)) rfl) ?_
    refine stepsOk_cons (st_load (fun _ h => h) (fun n => ldf n (by exact hK (2413 + kk * 4) (by omega))) rfl) ?_
    refine stepsOk_cons (st_fmul fl_ex fl_ex (fun _ h => h)) ?_
    refine stepsOk_cons (st_fadd (fun _ h => h) (fun _ h => h) (fun _ h => h)) ?_
    refine stepsOk_cons (st_move (fun _ h => h)) ?_
    refine stepsOk_cons (st_move (fun _ h => h)) ?_
    refine stepsOk_cons (st_nil (fun _ h => h) rfl) ?_
    refine stepsOk_cons (st_field (fun _ h => h) (fld51_1 bc (1 + kk * 4)) rfl) ?_
    refine stepsOk_cons (st_load (fun _ h => h) (fun n => ldf n (by exact hK (1 + kk * 4 + 1) (by omega))) rfl) ?_
    refine stepsOk_cons (st_fmul fl_ex fl_ex (fun _ h => h)) ?_
    refine stepsOk_cons (st_move (fun _ h => h)) ?_
    refine stepsOk_cons (st_move (fun _ h => h)) ?_
    refine stepsOk_cons (st_nil (fun _ h => h) rfl) ?_
    refine stepsOk_cons (st_field (fun _ h => h) (fld51_1 bc (805 + kk * 4)) rfl) ?_
    refine stepsOk_cons (st_load (fun _ h => h) (fun n => ldf n (by exact hK (805 + kk * 4 + 1) (by omega))) rfl) ?_
    refine stepsOk_cons (st_fmul fl_ex fl_ex (fun _ h => h)) ?_
    refine stepsOk_cons (st_fadd (fun _ h => h) (fun _ h => h) (fun _ h => h)) ?_
    refine stepsOk_cons (st_move (fun _ h => h)) ?_
    refine stepsOk_cons (st_move (fun _ h => h)) ?_
    refine stepsOk_cons (st_nil (fun _ h => h) rfl) ?_
    refine stepsOk_cons (st_field (fun _ h => h) (fld51_1 bc (2413 + kk * 4)) rfl) ?_
    refine stepsOk_cons (st_load (fun _ h => h) (fun n => ldf n (by exact hK (2413 + kk * 4 + 1) (by omega))) rfl) ?_
    refine stepsOk_cons (st_fmul fl_ex fl_ex (fun _ h => h)) ?_
    refine stepsOk_cons (st_fadd (fun _ h => h) (fun _ h => h) (fun _ h => h)) ?_
    refine stepsOk_cons (st_move (fun _ h => h)) ?_
    refine stepsOk_cons (st_move (fun _ h => h)) ?_
    refine stepsOk_cons (st_nil (fun _ h => h) rfl) ?_
    refine stepsOk_cons (st_field (fun _ h => h) (fld51_2 bc (1 + kk * 4)) rfl) ?_
    refine stepsOk_cons (st_load (fun _ h => h) (fun n => ldf n (by exact hK (1 + kk * 4 + 2) (by omega))) rfl) ?_
    refine stepsOk_cons (st_fmul fl_ex fl_ex (fun _ h => h)) ?_
    refine stepsOk_cons (st_move (fun _ h => h)) ?_
    refine stepsOk_cons (st_move (fun _ h => h)) ?_
    refine stepsOk_cons (st_nil (fun _ h => h) rfl) ?_
    refine stepsOk_cons (st_field (fun _ h => h) (fld51_2 bc (805 + kk * 4)) rfl) ?_
    refine stepsOk_cons (st_load (fun _ h => h) (fun n => ldf n (by exact hK (805 + kk * 4 + 2) (by omega))) rfl) ?_
    refine stepsOk_cons (st_fmul fl_ex fl_ex (fun _ h => h)) ?_
    refine stepsOk_cons (st_fadd (fun _ h => h) (fun _ h => h) (fun _ h => h)) ?_
    refine stepsOk_cons (st_move (fun _ h => h)) ?_
    refine stepsOk_cons (st_move (fun _ h => h)) ?_
    refine stepsOk_cons (st_nil (fun _ h => h) rfl) ?_
    refine stepsOk_cons (st_field (fun _ h => h) (fld51_2 bc (1609 + kk * 4)) rfl) ?_
    refine stepsOk_cons (st_load (fun _ h => h) (fun n => ldf n (by exact hK (1609 + kk * 4 + 2) (by omega))) rfl) ?_
    refine stepsOk_cons (st_fmul fl_ex fl_ex (fun _ h => h)) ?_
    refine stepsOk_cons (st_fadd (fun _ h => h) (fun _ h => h) (fun _ h => h)) ?_
    refine stepsOk_cons (st_move (fun _ h => h)) ?_
    refine stepsOk_cons (st_move (fun _ h => h)) ?_
    refine stepsOk_cons (st_nil (fun _ h => h) rfl) ?_
    refine stepsOk_cons (st_field (fun _ h => h) (fld51_2 bc (2413 + kk * 4)) rfl) ?_
    refine stepsOk_cons (st_load (fun _ h => h) (fun n => ldf n (by exact hK (2413 + kk * 4 + 2) (by omega))) rfl) ?_
    refine stepsOk_cons (st_fmul fl_ex fl_ex (fun _ h => h)) ?_
    refine stepsOk_cons (st_fadd (fun _ h => h) (fun _ h => h) (fun _ h => h)) ?_
    refine stepsOk_cons (st_assign (fun _ h => h)) ?_
    refine stepsOk_cons (st_assign (fun _ h => h)) ?_
    refine stepsOk_cons (st_assign (fun _ h => h)) ?_
    exact trivial
  case post =>
    simp only [forOut_ex, forOut_fl, forOut_nil]
    clear hK
    intro r0 _ r1 _ r2 _ r3 _ r4 _ r5 _ r6 _ r7 _ r8 _ r9 _ r10 _ r11 _ r12 _ r13 _ r14 _ r15 h15 r16 h16 r17 h17 n
    have H : Box ((cl r15, cl r16, cl r17) = afterC (fun i => cl (kf i)) kk (cl m) (cl p) (cl d) (cl sy)) := ⟨by rw [h15, h16, h17]; rfl⟩
    clear h15 h16 h17
    simp only [Act.put, List.setIfInBounds_toArray, List.set_cons_succ, List.set_cons_zero]
    go_wp2
    go_ret3
    exact ⟨r15, r16, r17, nq + n, rfl, World.drewN_drewN .., H.out⟩
end Go.Proofs.Qxb6601308a.Ad
