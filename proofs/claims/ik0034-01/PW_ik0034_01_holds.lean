import PyProof.Rows.All
import Wide.All
import OpenK.AllK
import Wide.FinOn
import PySem.Challenge.RW_ik0034_01
open PySem PySem.W PyProof.Rows PySem.Spec PySem.Calls
set_option Elab.async false
set_option maxRecDepth 100000
set_option maxHeartbeats 8000000
set_option linter.unusedVariables false
set_option compiler.extract_closed false
namespace Mine
namespace hd
noncomputable def st_0 : Stmt := by
  refine (?H : ∀ s0 s1 s2 s3 s4 s5 s6 s7 s8 s9 s10 s11 s12 s13 s14 s15 s16 s17 s18 s19 s20 s21 s22 s23 s24 s25 s26 s27 s28 s29 s30 s31 s32 s33 : Stmt, PySem.Challenge.rw_ik0034_01.row.toRowW.1.main.body = [s0, s1, s2, s3, s4, s5, s6, s7, s8, s9, s10, s11, s12, s13, s14, s15, s16, s17, s18, s19, s20, s21, s22, s23, s24, s25, s26, s27, s28, s29, s30, s31, s32, s33] → Stmt) _ _ _ _ _ _ _ _ _ _ _ _ _ _ _ _ _ _ _ _ _ _ _ _ _ _ _ _ _ _ _ _ _ _ rfl
  intro s0 s1 s2 s3 s4 s5 s6 s7 s8 s9 s10 s11 s12 s13 s14 s15 s16 s17 s18 s19 s20 s21 s22 s23 s24 s25 s26 s27 s28 s29 s30 s31 s32 s33 _
  exact s0
noncomputable def st_1 : Stmt := by
  refine (?H : ∀ s0 s1 s2 s3 s4 s5 s6 s7 s8 s9 s10 s11 s12 s13 s14 s15 s16 s17 s18 s19 s20 s21 s22 s23 s24 s25 s26 s27 s28 s29 s30 s31 s32 s33 : Stmt, PySem.Challenge.rw_ik0034_01.row.toRowW.1.main.body = [s0, s1, s2, s3, s4, s5, s6, s7, s8, s9, s10, s11, s12, s13, s14, s15, s16, s17, s18, s19, s20, s21, s22, s23, s24, s25, s26, s27, s28, s29, s30, s31, s32, s33] → Stmt) _ _ _ _ _ _ _ _ _ _ _ _ _ _ _ _ _ _ _ _ _ _ _ _ _ _ _ _ _ _ _ _ _ _ rfl
  intro s0 s1 s2 s3 s4 s5 s6 s7 s8 s9 s10 s11 s12 s13 s14 s15 s16 s17 s18 s19 s20 s21 s22 s23 s24 s25 s26 s27 s28 s29 s30 s31 s32 s33 _
  exact s1
noncomputable def st_2 : Stmt := by
  refine (?H : ∀ s0 s1 s2 s3 s4 s5 s6 s7 s8 s9 s10 s11 s12 s13 s14 s15 s16 s17 s18 s19 s20 s21 s22 s23 s24 s25 s26 s27 s28 s29 s30 s31 s32 s33 : Stmt, PySem.Challenge.rw_ik0034_01.row.toRowW.1.main.body = [s0, s1, s2, s3, s4, s5, s6, s7, s8, s9, s10, s11, s12, s13, s14, s15, s16, s17, s18, s19, s20, s21, s22, s23, s24, s25, s26, s27, s28, s29, s30, s31, s32, s33] → Stmt) _ _ _ _ _ _ _ _ _ _ _ _ _ _ _ _ _ _ _ _ _ _ _ _ _ _ _ _ _ _ _ _ _ _ rfl
  intro s0 s1 s2 s3 s4 s5 s6 s7 s8 s9 s10 s11 s12 s13 s14 s15 s16 s17 s18 s19 s20 s21 s22 s23 s24 s25 s26 s27 s28 s29 s30 s31 s32 s33 _
  exact s2
noncomputable def st_3 : Stmt := by
  refine (?H : ∀ s0 s1 s2 s3 s4 s5 s6 s7 s8 s9 s10 s11 s12 s13 s14 s15 s16 s17 s18 s19 s20 s21 s22 s23 s24 s25 s26 s27 s28 s29 s30 s31 s32 s33 : Stmt, PySem.Challenge.rw_ik0034_01.row.toRowW.1.main.body = [s0, s1, s2, s3, s4, s5, s6, s7, s8, s9, s10, s11, s12, s13, s14, s15, s16, s17, s18, s19, s20, s21, s22, s23, s24, s25, s26, s27, s28, s29, s30, s31, s32, s33] → Stmt) _ _ _ _ _ _ _ _ _ _ _ _ _ _ _ _ _ _ _ _ _ _ _ _ _ _ _ _ _ _ _ _ _ _ rfl
  intro s0 s1 s2 s3 s4 s5 s6 s7 s8 s9 s10 s11 s12 s13 s14 s15 s16 s17 s18 s19 s20 s21 s22 s23 s24 s25 s26 s27 s28 s29 s30 s31 s32 s33 _
  exact s3
noncomputable def st_4 : Stmt := by
  refine (?H : ∀ s0 s1 s2 s3 s4 s5 s6 s7 s8 s9 s10 s11 s12 s13 s14 s15 s16 s17 s18 s19 s20 s21 s22 s23 s24 s25 s26 s27 s28 s29 s30 s31 s32 s33 : Stmt, PySem.Challenge.rw_ik0034_01.row.toRowW.1.main.body = [s0, s1, s2, s3, s4, s5, s6, s7, s8, s9, s10, s11, s12, s13, s14, s15, s16, s17, s18, s19, s20, s21, s22, s23, s24, s25, s26, s27, s28, s29, s30, s31, s32, s33] → Stmt) _ _ _ _ _ _ _ _ _ _ _ _ _ _ _ _ _ _ _ _ _ _ _ _ _ _ _ _ _ _ _ _ _ _ rfl
  intro s0 s1 s2 s3 s4 s5 s6 s7 s8 s9 s10 s11 s12 s13 s14 s15 s16 s17 s18 s19 s20 s21 s22 s23 s24 s25 s26 s27 s28 s29 s30 s31 s32 s33 _
  exact s4
noncomputable def st_5 : Stmt := by
  refine (?H : ∀ s0 s1 s2 s3 s4 s5 s6 s7 s8 s9 s10 s11 s12 s13 s14 s15 s16 s17 s18 s19 s20 s21 s22 s23 s24 s25 s26 s27 s28 s29 s30 s31 s32 s33 : Stmt, PySem.Challenge.rw_ik0034_01.row.toRowW.1.main.body = [s0, s1, s2, s3, s4, s5, s6, s7, s8, s9, s10, s11, s12, s13, s14, s15, s16, s17, s18, s19, s20, s21, s22, s23, s24, s25, s26, s27, s28, s29, s30, s31, s32, s33] → Stmt) _ _ _ _ _ _ _ _ _ _ _ _ _ _ _ _ _ _ _ _ _ _ _ _ _ _ _ _ _ _ _ _ _ _ rfl
  intro s0 s1 s2 s3 s4 s5 s6 s7 s8 s9 s10 s11 s12 s13 s14 s15 s16 s17 s18 s19 s20 s21 s22 s23 s24 s25 s26 s27 s28 s29 s30 s31 s32 s33 _
  exact s5
noncomputable def st_6 : Stmt := by
  refine (?H : ∀ s0 s1 s2 s3 s4 s5 s6 s7 s8 s9 s10 s11 s12 s13 s14 s15 s16 s17 s18 s19 s20 s21 s22 s23 s24 s25 s26 s27 s28 s29 s30 s31 s32 s33 : Stmt, PySem.Challenge.rw_ik0034_01.row.toRowW.1.main.body = [s0, s1, s2, s3, s4, s5, s6, s7, s8, s9, s10, s11, s12, s13, s14, s15, s16, s17, s18, s19, s20, s21, s22, s23, s24, s25, s26, s27, s28, s29, s30, s31, s32, s33] → Stmt) _ _ _ _ _ _ _ _ _ _ _ _ _ _ _ _ _ _ _ _ _ _ _ _ _ _ _ _ _ _ _ _ _ _ rfl
  intro s0 s1 s2 s3 s4 s5 s6 s7 s8 s9 s10 s11 s12 s13 s14 s15 s16 s17 s18 s19 s20 s21 s22 s23 s24 s25 s26 s27 s28 s29 s30 s31 s32 s33 _
  exact s6
noncomputable def st_7 : Stmt := by
  refine (?H : ∀ s0 s1 s2 s3 s4 s5 s6 s7 s8 s9 s10 s11 s12 s13 s14 s15 s16 s17 s18 s19 s20 s21 s22 s23 s24 s25 s26 s27 s28 s29 s30 s31 s32 s33 : Stmt, PySem.Challenge.rw_ik0034_01.row.toRowW.1.main.body = [s0, s1, s2, s3, s4, s5, s6, s7, s8, s9, s10, s11, s12, s13, s14, s15, s16, s17, s18, s19, s20, s21, s22, s23, s24, s25, s26, s27, s28, s29, s30, s31, s32, s33] → Stmt) _ _ _ _ _ _ _ _ _ _ _ _ _ _ _ _ _ _ _ _ _ _ _ _ _ _ _ _ _ _ _ _ _ _ rfl
  intro s0 s1 s2 s3 s4 s5 s6 s7 s8 s9 s10 s11 s12 s13 s14 s15 s16 s17 s18 s19 s20 s21 s22 s23 s24 s25 s26 s27 s28 s29 s30 s31 s32 s33 _
  exact s7
noncomputable def st_8 : Stmt := by
  refine (?H : ∀ s0 s1 s2 s3 s4 s5 s6 s7 s8 s9 s10 s11 s12 s13 s14 s15 s16 s17 s18 s19 s20 s21 s22 s23 s24 s25 s26 s27 s28 s29 s30 s31 s32 s33 : Stmt, PySem.Challenge.rw_ik0034_01.row.toRowW.1.main.body = [s0, s1, s2, s3, s4, s5, s6, s7, s8, s9, s10, s11, s12, s13, s14, s15, s16, s17, s18, s19, s20, s21, s22, s23, s24, s25, s26, s27, s28, s29, s30, s31, s32, s33] → Stmt) _ _ _ _ _ _ _ _ _ _ _ _ _ _ _ _ _ _ _ _ _ _ _ _ _ _ _ _ _ _ _ _ _ _ rfl
  intro s0 s1 s2 s3 s4 s5 s6 s7 s8 s9 s10 s11 s12 s13 s14 s15 s16 s17 s18 s19 s20 s21 s22 s23 s24 s25 s26 s27 s28 s29 s30 s31 s32 s33 _
  exact s8
noncomputable def st_9 : Stmt := by
  refine (?H : ∀ s0 s1 s2 s3 s4 s5 s6 s7 s8 s9 s10 s11 s12 s13 s14 s15 s16 s17 s18 s19 s20 s21 s22 s23 s24 s25 s26 s27 s28 s29 s30 s31 s32 s33 : Stmt, PySem.Challenge.rw_ik0034_01.row.toRowW.1.main.body = [s0, s1, s2, s3, s4, s5, s6, s7, s8, s9, s10, s11, s12, s13, s14, s15, s16, s17, s18, s19, s20, s21, s22, s23, s24, s25, s26, s27, s28, s29, s30, s31, s32, s33] → Stmt) _ _ _ _ _ _ _ _ _ _ _ _ _ _ _ _ _ _ _ _ _ _ _ _ _ _ _ _ _ _ _ _ _ _ rfl
  intro s0 s1 s2 s3 s4 s5 s6 s7 s8 s9 s10 s11 s12 s13 s14 s15 s16 s17 s18 s19 s20 s21 s22 s23 s24 s25 s26 s27 s28 s29 s30 s31 s32 s33 _
  exact s9
noncomputable def st_10 : Stmt := by
  refine (?H : ∀ s0 s1 s2 s3 s4 s5 s6 s7 s8 s9 s10 s11 s12 s13 s14 s15 s16 s17 s18 s19 s20 s21 s22 s23 s24 s25 s26 s27 s28 s29 s30 s31 s32 s33 : Stmt, PySem.Challenge.rw_ik0034_01.row.toRowW.1.main.body = [s0, s1, s2, s3, s4, s5, s6, s7, s8, s9, s10, s11, s12, s13, s14, s15, s16, s17, s18, s19, s20, s21, s22, s23, s24, s25, s26, s27, s28, s29, s30, s31, s32, s33] → Stmt) _ _ _ _ _ _ _ _ _ _ _ _ _ _ _ _ _ _ _ _ _ _ _ _ _ _ _ _ _ _ _ _ _ _ rfl
  intro s0 s1 s2 s3 s4 s5 s6 s7 s8 s9 s10 s11 s12 s13 s14 s15 s16 s17 s18 s19 s20 s21 s22 s23 s24 s25 s26 s27 s28 s29 s30 s31 s32 s33 _
  exact s10
noncomputable def st_11 : Stmt := by
  refine (?H : ∀ s0 s1 s2 s3 s4 s5 s6 s7 s8 s9 s10 s11 s12 s13 s14 s15 s16 s17 s18 s19 s20 s21 s22 s23 s24 s25 s26 s27 s28 s29 s30 s31 s32 s33 : Stmt, PySem.Challenge.rw_ik0034_01.row.toRowW.1.main.body = [s0, s1, s2, s3, s4, s5, s6, s7, s8, s9, s10, s11, s12, s13, s14, s15, s16, s17, s18, s19, s20, s21, s22, s23, s24, s25, s26, s27, s28, s29, s30, s31, s32, s33] → Stmt) _ _ _ _ _ _ _ _ _ _ _ _ _ _ _ _ _ _ _ _ _ _ _ _ _ _ _ _ _ _ _ _ _ _ rfl
  intro s0 s1 s2 s3 s4 s5 s6 s7 s8 s9 s10 s11 s12 s13 s14 s15 s16 s17 s18 s19 s20 s21 s22 s23 s24 s25 s26 s27 s28 s29 s30 s31 s32 s33 _
  exact s11
noncomputable def st_12 : Stmt := by
  refine (?H : ∀ s0 s1 s2 s3 s4 s5 s6 s7 s8 s9 s10 s11 s12 s13 s14 s15 s16 s17 s18 s19 s20 s21 s22 s23 s24 s25 s26 s27 s28 s29 s30 s31 s32 s33 : Stmt, PySem.Challenge.rw_ik0034_01.row.toRowW.1.main.body = [s0, s1, s2, s3, s4, s5, s6, s7, s8, s9, s10, s11, s12, s13, s14, s15, s16, s17, s18, s19, s20, s21, s22, s23, s24, s25, s26, s27, s28, s29, s30, s31, s32, s33] → Stmt) _ _ _ _ _ _ _ _ _ _ _ _ _ _ _ _ _ _ _ _ _ _ _ _ _ _ _ _ _ _ _ _ _ _ rfl
  intro s0 s1 s2 s3 s4 s5 s6 s7 s8 s9 s10 s11 s12 s13 s14 s15 s16 s17 s18 s19 s20 s21 s22 s23 s24 s25 s26 s27 s28 s29 s30 s31 s32 s33 _
  exact s12
noncomputable def st_13 : Stmt := by
  refine (?H : ∀ s0 s1 s2 s3 s4 s5 s6 s7 s8 s9 s10 s11 s12 s13 s14 s15 s16 s17 s18 s19 s20 s21 s22 s23 s24 s25 s26 s27 s28 s29 s30 s31 s32 s33 : Stmt, PySem.Challenge.rw_ik0034_01.row.toRowW.1.main.body = [s0, s1, s2, s3, s4, s5, s6, s7, s8, s9, s10, s11, s12, s13, s14, s15, s16, s17, s18, s19, s20, s21, s22, s23, s24, s25, s26, s27, s28, s29, s30, s31, s32, s33] → Stmt) _ _ _ _ _ _ _ _ _ _ _ _ _ _ _ _ _ _ _ _ _ _ _ _ _ _ _ _ _ _ _ _ _ _ rfl
  intro s0 s1 s2 s3 s4 s5 s6 s7 s8 s9 s10 s11 s12 s13 s14 s15 s16 s17 s18 s19 s20 s21 s22 s23 s24 s25 s26 s27 s28 s29 s30 s31 s32 s33 _
  exact s13
noncomputable def st_14 : Stmt := by
  refine (?H : ∀ s0 s1 s2 s3 s4 s5 s6 s7 s8 s9 s10 s11 s12 s13 s14 s15 s16 s17 s18 s19 s20 s21 s22 s23 s24 s25 s26 s27 s28 s29 s30 s31 s32 s33 : Stmt, PySem.Challenge.rw_ik0034_01.row.toRowW.1.main.body = [s0, s1, s2, s3, s4, s5, s6, s7, s8, s9, s10, s11, s12, s13, s14, s15, s16, s17, s18, s19, s20, s21, s22, s23, s24, s25, s26, s27, s28, s29, s30, s31, s32, s33] → Stmt) _ _ _ _ _ _ _ _ _ _ _ _ _ _ _ _ _ _ _ _ _ _ _ _ _ _ _ _ _ _ _ _ _ _ rfl
  intro s0 s1 s2 s3 s4 s5 s6 s7 s8 s9 s10 s11 s12 s13 s14 s15 s16 s17 s18 s19 s20 s21 s22 s23 s24 s25 s26 s27 s28 s29 s30 s31 s32 s33 _
  exact s14
noncomputable def st_15 : Stmt := by
  refine (?H : ∀ s0 s1 s2 s3 s4 s5 s6 s7 s8 s9 s10 s11 s12 s13 s14 s15 s16 s17 s18 s19 s20 s21 s22 s23 s24 s25 s26 s27 s28 s29 s30 s31 s32 s33 : Stmt, PySem.Challenge.rw_ik0034_01.row.toRowW.1.main.body = [s0, s1, s2, s3, s4, s5, s6, s7, s8, s9, s10, s11, s12, s13, s14, s15, s16, s17, s18, s19, s20, s21, s22, s23, s24, s25, s26, s27, s28, s29, s30, s31, s32, s33] → Stmt) _ _ _ _ _ _ _ _ _ _ _ _ _ _ _ _ _ _ _ _ _ _ _ _ _ _ _ _ _ _ _ _ _ _ rfl
  intro s0 s1 s2 s3 s4 s5 s6 s7 s8 s9 s10 s11 s12 s13 s14 s15 s16 s17 s18 s19 s20 s21 s22 s23 s24 s25 s26 s27 s28 s29 s30 s31 s32 s33 _
  exact s15
noncomputable def st_16 : Stmt := by
  refine (?H : ∀ s0 s1 s2 s3 s4 s5 s6 s7 s8 s9 s10 s11 s12 s13 s14 s15 s16 s17 s18 s19 s20 s21 s22 s23 s24 s25 s26 s27 s28 s29 s30 s31 s32 s33 : Stmt, PySem.Challenge.rw_ik0034_01.row.toRowW.1.main.body = [s0, s1, s2, s3, s4, s5, s6, s7, s8, s9, s10, s11, s12, s13, s14, s15, s16, s17, s18, s19, s20, s21, s22, s23, s24, s25, s26, s27, s28, s29, s30, s31, s32, s33] → Stmt) _ _ _ _ _ _ _ _ _ _ _ _ _ _ _ _ _ _ _ _ _ _ _ _ _ _ _ _ _ _ _ _ _ _ rfl
  intro s0 s1 s2 s3 s4 s5 s6 s7 s8 s9 s10 s11 s12 s13 s14 s15 s16 s17 s18 s19 s20 s21 s22 s23 s24 s25 s26 s27 s28 s29 s30 s31 s32 s33 _
  exact s16
noncomputable def st_17 : Stmt := by
  refine (?H : ∀ s0 s1 s2 s3 s4 s5 s6 s7 s8 s9 s10 s11 s12 s13 s14 s15 s16 s17 s18 s19 s20 s21 s22 s23 s24 s25 s26 s27 s28 s29 s30 s31 s32 s33 : Stmt, PySem.Challenge.rw_ik0034_01.row.toRowW.1.main.body = [s0, s1, s2, s3, s4, s5, s6, s7, s8, s9, s10, s11, s12, s13, s14, s15, s16, s17, s18, s19, s20, s21, s22, s23, s24, s25, s26, s27, s28, s29, s30, s31, s32, s33] → Stmt) _ _ _ _ _ _ _ _ _ _ _ _ _ _ _ _ _ _ _ _ _ _ _ _ _ _ _ _ _ _ _ _ _ _ rfl
  intro s0 s1 s2 s3 s4 s5 s6 s7 s8 s9 s10 s11 s12 s13 s14 s15 s16 s17 s18 s19 s20 s21 s22 s23 s24 s25 s26 s27 s28 s29 s30 s31 s32 s33 _
  exact s17
noncomputable def st_18 : Stmt := by
  refine (?H : ∀ s0 s1 s2 s3 s4 s5 s6 s7 s8 s9 s10 s11 s12 s13 s14 s15 s16 s17 s18 s19 s20 s21 s22 s23 s24 s25 s26 s27 s28 s29 s30 s31 s32 s33 : Stmt, PySem.Challenge.rw_ik0034_01.row.toRowW.1.main.body = [s0, s1, s2, s3, s4, s5, s6, s7, s8, s9, s10, s11, s12, s13, s14, s15, s16, s17, s18, s19, s20, s21, s22, s23, s24, s25, s26, s27, s28, s29, s30, s31, s32, s33] → Stmt) _ _ _ _ _ _ _ _ _ _ _ _ _ _ _ _ _ _ _ _ _ _ _ _ _ _ _ _ _ _ _ _ _ _ rfl
  intro s0 s1 s2 s3 s4 s5 s6 s7 s8 s9 s10 s11 s12 s13 s14 s15 s16 s17 s18 s19 s20 s21 s22 s23 s24 s25 s26 s27 s28 s29 s30 s31 s32 s33 _
  exact s18
noncomputable def st_19 : Stmt := by
  refine (?H : ∀ s0 s1 s2 s3 s4 s5 s6 s7 s8 s9 s10 s11 s12 s13 s14 s15 s16 s17 s18 s19 s20 s21 s22 s23 s24 s25 s26 s27 s28 s29 s30 s31 s32 s33 : Stmt, PySem.Challenge.rw_ik0034_01.row.toRowW.1.main.body = [s0, s1, s2, s3, s4, s5, s6, s7, s8, s9, s10, s11, s12, s13, s14, s15, s16, s17, s18, s19, s20, s21, s22, s23, s24, s25, s26, s27, s28, s29, s30, s31, s32, s33] → Stmt) _ _ _ _ _ _ _ _ _ _ _ _ _ _ _ _ _ _ _ _ _ _ _ _ _ _ _ _ _ _ _ _ _ _ rfl
  intro s0 s1 s2 s3 s4 s5 s6 s7 s8 s9 s10 s11 s12 s13 s14 s15 s16 s17 s18 s19 s20 s21 s22 s23 s24 s25 s26 s27 s28 s29 s30 s31 s32 s33 _
  exact s19
noncomputable def st_20 : Stmt := by
  refine (?H : ∀ s0 s1 s2 s3 s4 s5 s6 s7 s8 s9 s10 s11 s12 s13 s14 s15 s16 s17 s18 s19 s20 s21 s22 s23 s24 s25 s26 s27 s28 s29 s30 s31 s32 s33 : Stmt, PySem.Challenge.rw_ik0034_01.row.toRowW.1.main.body = [s0, s1, s2, s3, s4, s5, s6, s7, s8, s9, s10, s11, s12, s13, s14, s15, s16, s17, s18, s19, s20, s21, s22, s23, s24, s25, s26, s27, s28, s29, s30, s31, s32, s33] → Stmt) _ _ _ _ _ _ _ _ _ _ _ _ _ _ _ _ _ _ _ _ _ _ _ _ _ _ _ _ _ _ _ _ _ _ rfl
  intro s0 s1 s2 s3 s4 s5 s6 s7 s8 s9 s10 s11 s12 s13 s14 s15 s16 s17 s18 s19 s20 s21 s22 s23 s24 s25 s26 s27 s28 s29 s30 s31 s32 s33 _
  exact s20
noncomputable def st_21 : Stmt := by
  refine (?H : ∀ s0 s1 s2 s3 s4 s5 s6 s7 s8 s9 s10 s11 s12 s13 s14 s15 s16 s17 s18 s19 s20 s21 s22 s23 s24 s25 s26 s27 s28 s29 s30 s31 s32 s33 : Stmt, PySem.Challenge.rw_ik0034_01.row.toRowW.1.main.body = [s0, s1, s2, s3, s4, s5, s6, s7, s8, s9, s10, s11, s12, s13, s14, s15, s16, s17, s18, s19, s20, s21, s22, s23, s24, s25, s26, s27, s28, s29, s30, s31, s32, s33] → Stmt) _ _ _ _ _ _ _ _ _ _ _ _ _ _ _ _ _ _ _ _ _ _ _ _ _ _ _ _ _ _ _ _ _ _ rfl
  intro s0 s1 s2 s3 s4 s5 s6 s7 s8 s9 s10 s11 s12 s13 s14 s15 s16 s17 s18 s19 s20 s21 s22 s23 s24 s25 s26 s27 s28 s29 s30 s31 s32 s33 _
  exact s21
noncomputable def st_22 : Stmt := by
  refine (?H : ∀ s0 s1 s2 s3 s4 s5 s6 s7 s8 s9 s10 s11 s12 s13 s14 s15 s16 s17 s18 s19 s20 s21 s22 s23 s24 s25 s26 s27 s28 s29 s30 s31 s32 s33 : Stmt, PySem.Challenge.rw_ik0034_01.row.toRowW.1.main.body = [s0, s1, s2, s3, s4, s5, s6, s7, s8, s9, s10, s11, s12, s13, s14, s15, s16, s17, s18, s19, s20, s21, s22, s23, s24, s25, s26, s27, s28, s29, s30, s31, s32, s33] → Stmt) _ _ _ _ _ _ _ _ _ _ _ _ _ _ _ _ _ _ _ _ _ _ _ _ _ _ _ _ _ _ _ _ _ _ rfl
  intro s0 s1 s2 s3 s4 s5 s6 s7 s8 s9 s10 s11 s12 s13 s14 s15 s16 s17 s18 s19 s20 s21 s22 s23 s24 s25 s26 s27 s28 s29 s30 s31 s32 s33 _
  exact s22
noncomputable def st_23 : Stmt := by
  refine (?H : ∀ s0 s1 s2 s3 s4 s5 s6 s7 s8 s9 s10 s11 s12 s13 s14 s15 s16 s17 s18 s19 s20 s21 s22 s23 s24 s25 s26 s27 s28 s29 s30 s31 s32 s33 : Stmt, PySem.Challenge.rw_ik0034_01.row.toRowW.1.main.body = [s0, s1, s2, s3, s4, s5, s6, s7, s8, s9, s10, s11, s12, s13, s14, s15, s16, s17, s18, s19, s20, s21, s22, s23, s24, s25, s26, s27, s28, s29, s30, s31, s32, s33] → Stmt) _ _ _ _ _ _ _ _ _ _ _ _ _ _ _ _ _ _ _ _ _ _ _ _ _ _ _ _ _ _ _ _ _ _ rfl
  intro s0 s1 s2 s3 s4 s5 s6 s7 s8 s9 s10 s11 s12 s13 s14 s15 s16 s17 s18 s19 s20 s21 s22 s23 s24 s25 s26 s27 s28 s29 s30 s31 s32 s33 _
  exact s23
noncomputable def st_24 : Stmt := by
  refine (?H : ∀ s0 s1 s2 s3 s4 s5 s6 s7 s8 s9 s10 s11 s12 s13 s14 s15 s16 s17 s18 s19 s20 s21 s22 s23 s24 s25 s26 s27 s28 s29 s30 s31 s32 s33 : Stmt, PySem.Challenge.rw_ik0034_01.row.toRowW.1.main.body = [s0, s1, s2, s3, s4, s5, s6, s7, s8, s9, s10, s11, s12, s13, s14, s15, s16, s17, s18, s19, s20, s21, s22, s23, s24, s25, s26, s27, s28, s29, s30, s31, s32, s33] → Stmt) _ _ _ _ _ _ _ _ _ _ _ _ _ _ _ _ _ _ _ _ _ _ _ _ _ _ _ _ _ _ _ _ _ _ rfl
  intro s0 s1 s2 s3 s4 s5 s6 s7 s8 s9 s10 s11 s12 s13 s14 s15 s16 s17 s18 s19 s20 s21 s22 s23 s24 s25 s26 s27 s28 s29 s30 s31 s32 s33 _
  exact s24
noncomputable def st_25 : Stmt := by
  refine (?H : ∀ s0 s1 s2 s3 s4 s5 s6 s7 s8 s9 s10 s11 s12 s13 s14 s15 s16 s17 s18 s19 s20 s21 s22 s23 s24 s25 s26 s27 s28 s29 s30 s31 s32 s33 : Stmt, PySem.Challenge.rw_ik0034_01.row.toRowW.1.main.body = [s0, s1, s2, s3, s4, s5, s6, s7, s8, s9, s10, s11, s12, s13, s14, s15, s16, s17, s18, s19, s20, s21, s22, s23, s24, s25, s26, s27, s28, s29, s30, s31, s32, s33] → Stmt) _ _ _ _ _ _ _ _ _ _ _ _ _ _ _ _ _ _ _ _ _ _ _ _ _ _ _ _ _ _ _ _ _ _ rfl
  intro s0 s1 s2 s3 s4 s5 s6 s7 s8 s9 s10 s11 s12 s13 s14 s15 s16 s17 s18 s19 s20 s21 s22 s23 s24 s25 s26 s27 s28 s29 s30 s31 s32 s33 _
  exact s25
noncomputable def st_26 : Stmt := by
  refine (?H : ∀ s0 s1 s2 s3 s4 s5 s6 s7 s8 s9 s10 s11 s12 s13 s14 s15 s16 s17 s18 s19 s20 s21 s22 s23 s24 s25 s26 s27 s28 s29 s30 s31 s32 s33 : Stmt, PySem.Challenge.rw_ik0034_01.row.toRowW.1.main.body = [s0, s1, s2, s3, s4, s5, s6, s7, s8, s9, s10, s11, s12, s13, s14, s15, s16, s17, s18, s19, s20, s21, s22, s23, s24, s25, s26, s27, s28, s29, s30, s31, s32, s33] → Stmt) _ _ _ _ _ _ _ _ _ _ _ _ _ _ _ _ _ _ _ _ _ _ _ _ _ _ _ _ _ _ _ _ _ _ rfl
  intro s0 s1 s2 s3 s4 s5 s6 s7 s8 s9 s10 s11 s12 s13 s14 s15 s16 s17 s18 s19 s20 s21 s22 s23 s24 s25 s26 s27 s28 s29 s30 s31 s32 s33 _
  exact s26
noncomputable def st_27 : Stmt := by
  refine (?H : ∀ s0 s1 s2 s3 s4 s5 s6 s7 s8 s9 s10 s11 s12 s13 s14 s15 s16 s17 s18 s19 s20 s21 s22 s23 s24 s25 s26 s27 s28 s29 s30 s31 s32 s33 : Stmt, PySem.Challenge.rw_ik0034_01.row.toRowW.1.main.body = [s0, s1, s2, s3, s4, s5, s6, s7, s8, s9, s10, s11, s12, s13, s14, s15, s16, s17, s18, s19, s20, s21, s22, s23, s24, s25, s26, s27, s28, s29, s30, s31, s32, s33] → Stmt) _ _ _ _ _ _ _ _ _ _ _ _ _ _ _ _ _ _ _ _ _ _ _ _ _ _ _ _ _ _ _ _ _ _ rfl
  intro s0 s1 s2 s3 s4 s5 s6 s7 s8 s9 s10 s11 s12 s13 s14 s15 s16 s17 s18 s19 s20 s21 s22 s23 s24 s25 s26 s27 s28 s29 s30 s31 s32 s33 _
  exact s27
noncomputable def st_28 : Stmt := by
  refine (?H : ∀ s0 s1 s2 s3 s4 s5 s6 s7 s8 s9 s10 s11 s12 s13 s14 s15 s16 s17 s18 s19 s20 s21 s22 s23 s24 s25 s26 s27 s28 s29 s30 s31 s32 s33 : Stmt, PySem.Challenge.rw_ik0034_01.row.toRowW.1.main.body = [s0, s1, s2, s3, s4, s5, s6, s7, s8, s9, s10, s11, s12, s13, s14, s15, s16, s17, s18, s19, s20, s21, s22, s23, s24, s25, s26, s27, s28, s29, s30, s31, s32, s33] → Stmt) _ _ _ _ _ _ _ _ _ _ _ _ _ _ _ _ _ _ _ _ _ _ _ _ _ _ _ _ _ _ _ _ _ _ rfl
  intro s0 s1 s2 s3 s4 s5 s6 s7 s8 s9 s10 s11 s12 s13 s14 s15 s16 s17 s18 s19 s20 s21 s22 s23 s24 s25 s26 s27 s28 s29 s30 s31 s32 s33 _
  exact s28
noncomputable def st_29 : Stmt := by
  refine (?H : ∀ s0 s1 s2 s3 s4 s5 s6 s7 s8 s9 s10 s11 s12 s13 s14 s15 s16 s17 s18 s19 s20 s21 s22 s23 s24 s25 s26 s27 s28 s29 s30 s31 s32 s33 : Stmt, PySem.Challenge.rw_ik0034_01.row.toRowW.1.main.body = [s0, s1, s2, s3, s4, s5, s6, s7, s8, s9, s10, s11, s12, s13, s14, s15, s16, s17, s18, s19, s20, s21, s22, s23, s24, s25, s26, s27, s28, s29, s30, s31, s32, s33] → Stmt) _ _ _ _ _ _ _ _ _ _ _ _ _ _ _ _ _ _ _ _ _ _ _ _ _ _ _ _ _ _ _ _ _ _ rfl
  intro s0 s1 s2 s3 s4 s5 s6 s7 s8 s9 s10 s11 s12 s13 s14 s15 s16 s17 s18 s19 s20 s21 s22 s23 s24 s25 s26 s27 s28 s29 s30 s31 s32 s33 _
  exact s29
noncomputable def st_30 : Stmt := by
  refine (?H : ∀ s0 s1 s2 s3 s4 s5 s6 s7 s8 s9 s10 s11 s12 s13 s14 s15 s16 s17 s18 s19 s20 s21 s22 s23 s24 s25 s26 s27 s28 s29 s30 s31 s32 s33 : Stmt, PySem.Challenge.rw_ik0034_01.row.toRowW.1.main.body = [s0, s1, s2, s3, s4, s5, s6, s7, s8, s9, s10, s11, s12, s13, s14, s15, s16, s17, s18, s19, s20, s21, s22, s23, s24, s25, s26, s27, s28, s29, s30, s31, s32, s33] → Stmt) _ _ _ _ _ _ _ _ _ _ _ _ _ _ _ _ _ _ _ _ _ _ _ _ _ _ _ _ _ _ _ _ _ _ rfl
  intro s0 s1 s2 s3 s4 s5 s6 s7 s8 s9 s10 s11 s12 s13 s14 s15 s16 s17 s18 s19 s20 s21 s22 s23 s24 s25 s26 s27 s28 s29 s30 s31 s32 s33 _
  exact s30
noncomputable def st_31 : Stmt := by
  refine (?H : ∀ s0 s1 s2 s3 s4 s5 s6 s7 s8 s9 s10 s11 s12 s13 s14 s15 s16 s17 s18 s19 s20 s21 s22 s23 s24 s25 s26 s27 s28 s29 s30 s31 s32 s33 : Stmt, PySem.Challenge.rw_ik0034_01.row.toRowW.1.main.body = [s0, s1, s2, s3, s4, s5, s6, s7, s8, s9, s10, s11, s12, s13, s14, s15, s16, s17, s18, s19, s20, s21, s22, s23, s24, s25, s26, s27, s28, s29, s30, s31, s32, s33] → Stmt) _ _ _ _ _ _ _ _ _ _ _ _ _ _ _ _ _ _ _ _ _ _ _ _ _ _ _ _ _ _ _ _ _ _ rfl
  intro s0 s1 s2 s3 s4 s5 s6 s7 s8 s9 s10 s11 s12 s13 s14 s15 s16 s17 s18 s19 s20 s21 s22 s23 s24 s25 s26 s27 s28 s29 s30 s31 s32 s33 _
  exact s31
noncomputable def st_32 : Stmt := by
  refine (?H : ∀ s0 s1 s2 s3 s4 s5 s6 s7 s8 s9 s10 s11 s12 s13 s14 s15 s16 s17 s18 s19 s20 s21 s22 s23 s24 s25 s26 s27 s28 s29 s30 s31 s32 s33 : Stmt, PySem.Challenge.rw_ik0034_01.row.toRowW.1.main.body = [s0, s1, s2, s3, s4, s5, s6, s7, s8, s9, s10, s11, s12, s13, s14, s15, s16, s17, s18, s19, s20, s21, s22, s23, s24, s25, s26, s27, s28, s29, s30, s31, s32, s33] → Stmt) _ _ _ _ _ _ _ _ _ _ _ _ _ _ _ _ _ _ _ _ _ _ _ _ _ _ _ _ _ _ _ _ _ _ rfl
  intro s0 s1 s2 s3 s4 s5 s6 s7 s8 s9 s10 s11 s12 s13 s14 s15 s16 s17 s18 s19 s20 s21 s22 s23 s24 s25 s26 s27 s28 s29 s30 s31 s32 s33 _
  exact s32
noncomputable def st_33 : Stmt := by
  refine (?H : ∀ s0 s1 s2 s3 s4 s5 s6 s7 s8 s9 s10 s11 s12 s13 s14 s15 s16 s17 s18 s19 s20 s21 s22 s23 s24 s25 s26 s27 s28 s29 s30 s31 s32 s33 : Stmt, PySem.Challenge.rw_ik0034_01.row.toRowW.1.main.body = [s0, s1, s2, s3, s4, s5, s6, s7, s8, s9, s10, s11, s12, s13, s14, s15, s16, s17, s18, s19, s20, s21, s22, s23, s24, s25, s26, s27, s28, s29, s30, s31, s32, s33] → Stmt) _ _ _ _ _ _ _ _ _ _ _ _ _ _ _ _ _ _ _ _ _ _ _ _ _ _ _ _ _ _ _ _ _ _ rfl
  intro s0 s1 s2 s3 s4 s5 s6 s7 s8 s9 s10 s11 s12 s13 s14 s15 s16 s17 s18 s19 s20 s21 s22 s23 s24 s25 s26 s27 s28 s29 s30 s31 s32 s33 _
  exact s33
noncomputable def SC0 : Scope := by
  refine (?H : ∀ (b : List Stmt) (sc : Scope) (fa : Bool) (fi : PySem.Str) (mo : List (PySem.Str × Const)), PySem.Challenge.rw_ik0034_01.row.toRowW.1.main = { body := b, scope := sc, futureAnnotations := fa, file := fi, more := mo } → Scope) _ _ _ _ _ rfl
  intro b sc fa fi mo _
  exact sc
noncomputable def PP0 : Program := by
  refine (?H : ∀ (b : List Stmt) (sc : Scope) (fa : Bool) (fi : PySem.Str) (mo : List (PySem.Str × Const)) (gi : Given), PySem.Challenge.rw_ik0034_01.row.toRowW.1 = { main := { body := b, scope := sc, futureAnnotations := fa, file := fi, more := mo }, modules := [], parses := [], absent := [], harvested := [], given := gi } → Program) _ _ _ _ _ _ rfl
  intro b sc fa fi mo gi _
  exact { main := { body := [st_0, st_1, st_2, st_3, st_4, st_5, st_6, st_7, st_8, st_9, st_10, st_11, st_12, st_13, st_14, st_15, st_16, st_17, st_18, st_19, st_20, st_21, st_22, st_23, st_24, st_25, st_26, st_27, st_28, st_29, st_30, st_31, st_32, st_33], scope := SC0, futureAnnotations := fa, file := fi, more := mo }, modules := [], parses := [], absent := [], harvested := [], given := gi }
noncomputable def view_39 : Program := by
  refine (?H : ∀ (b : List Stmt) (sc : Scope) (fa : Bool) (fi : PySem.Str) (mo : List (PySem.Str × Const)) (gi : Given), PySem.Challenge.rw_ik0034_01.row.toRowW.1 = { main := { body := b, scope := sc, futureAnnotations := fa, file := fi, more := mo }, modules := [], parses := [], absent := [], harvested := [], given := gi } → Program) _ _ _ _ _ _ rfl
  intro b sc fa fi mo gi _
  exact { main := { body := [st_0, st_1, st_2, st_3, st_4, st_5, st_6, st_7, st_8, st_9, st_14, st_15, st_16, st_22, st_23, st_24, st_25, st_26, st_28, st_29, st_30, st_31, st_32, st_33], scope := SC0, futureAnnotations := fa, file := fi, more := mo }, modules := [], parses := [], absent := [], harvested := [], given := gi }
noncomputable def RW0 : PySem.W.OpenLaw := { prog := PP0, name := PySem.Str.ofString "law", about := [PySem.Str.ofString "body_encode"], foot := 6, most := some 63, bound := none, writes := false }
theorem RW0_eq : PySem.Challenge.rw_ik0034_01 = RW0 := by kernel_rfl
theorem said0 : PySem.W.OpenLaw.wellSaid RW0 = true := by k_qdec
theorem alone : view_39.modules.isEmpty = true := by k_qdec
noncomputable def heap_39 : Params → Frag := by
  refine (?H : ∀ (s0 : Stmt) (s1 : Stmt) (s2 : Stmt) (s3 : Stmt) (s4 : Stmt) (s5 : Stmt) (s6 : Stmt) (s7 : Stmt) (s8 : Stmt) (s9 : Stmt) (s10 : Stmt) (s11 : Stmt) (s12 : Stmt) (s13 : Stmt) (n14 : PySem.Str) (a14 : Arguments) (b14 : List Stmt) (d14 : List PySem.Expr) (r14 : Option PySem.Expr) (t14 : List TypeParam) (c14 : Scope) (x14 : Option Scope) (y14 : PySem.Str) (p14 : Pos) (n15 : PySem.Str) (a15 : Arguments) (b15 : List Stmt) (d15 : List PySem.Expr) (r15 : Option PySem.Expr) (t15 : List TypeParam) (c15 : Scope) (x15 : Option Scope) (y15 : PySem.Str) (p15 : Pos) (s16 : Stmt) (s17 : Stmt) (s18 : Stmt) (n19 : PySem.Str) (a19 : Arguments) (b19 : List Stmt) (d19 : List PySem.Expr) (r19 : Option PySem.Expr) (t19 : List TypeParam) (c19 : Scope) (x19 : Option Scope) (y19 : PySem.Str) (p19 : Pos) (n20 : PySem.Str) (a20 : Arguments) (b20 : List Stmt) (d20 : List PySem.Expr) (r20 : Option PySem.Expr) (t20 : List TypeParam) (c20 : Scope) (x20 : Option Scope) (y20 : PySem.Str) (p20 : Pos) (s21 : Stmt) (n22 : PySem.Str) (a22 : Arguments) (b22 : List Stmt) (d22 : List PySem.Expr) (r22 : Option PySem.Expr) (t22 : List TypeParam) (c22 : Scope) (x22 : Option Scope) (y22 : PySem.Str) (p22 : Pos) (ca22 : PySem.Str) (cb22 : List PySem.Expr) (cc22 : List Keyword) (cd22 : List PySem.Expr) (ce22 : List TypeParam) (cf22 : Scope) (cg22 : Option Scope) (ch22 : PySem.Str) (ci22 : List PySem.Str) (cj22 : Pos) (s23 : Stmt) (n24 : PySem.Str) (a24 : Arguments) (b24 : List Stmt) (d24 : List PySem.Expr) (r24 : Option PySem.Expr) (t24 : List TypeParam) (c24 : Scope) (x24 : Option Scope) (y24 : PySem.Str) (p24 : Pos) (s25 : Stmt) (n26 : PySem.Str) (a26 : Arguments) (b26 : List Stmt) (d26 : List PySem.Expr) (r26 : Option PySem.Expr) (t26 : List TypeParam) (c26 : Scope) (x26 : Option Scope) (y26 : PySem.Str) (p26 : Pos) (s27 : Stmt) (n28 : PySem.Str) (a28 : Arguments) (b28 : List Stmt) (d28 : List PySem.Expr) (r28 : Option PySem.Expr) (t28 : List TypeParam) (c28 : Scope) (x28 : Option Scope) (y28 : PySem.Str) (p28 : Pos) (n29 : PySem.Str) (a29 : Arguments) (b29 : List Stmt) (d29 : List PySem.Expr) (r29 : Option PySem.Expr) (t29 : List TypeParam) (c29 : Scope) (x29 : Option Scope) (y29 : PySem.Str) (p29 : Pos) (n30 : PySem.Str) (a30 : Arguments) (b30 : List Stmt) (d30 : List PySem.Expr) (r30 : Option PySem.Expr) (t30 : List TypeParam) (c30 : Scope) (x30 : Option Scope) (y30 : PySem.Str) (p30 : Pos) (n31 : PySem.Str) (a31 : Arguments) (b31 : List Stmt) (d31 : List PySem.Expr) (r31 : Option PySem.Expr) (t31 : List TypeParam) (c31 : Scope) (x31 : Option Scope) (y31 : PySem.Str) (p31 : Pos) (n32 : PySem.Str) (a32 : Arguments) (b32 : List Stmt) (d32 : List PySem.Expr) (r32 : Option PySem.Expr) (t32 : List TypeParam) (c32 : Scope) (x32 : Option Scope) (y32 : PySem.Str) (p32 : Pos) (n33 : PySem.Str) (a33 : Arguments) (b33 : List Stmt) (d33 : List PySem.Expr) (r33 : Option PySem.Expr) (t33 : List TypeParam) (c33 : Scope) (x33 : Option Scope) (y33 : PySem.Str) (p33 : Pos), PySem.Challenge.rw_ik0034_01.row.toRowW.1.main.body = [s0, s1, s2, s3, s4, s5, s6, s7, s8, s9, s10, s11, s12, s13, .FunctionDef n14 a14 b14 d14 r14 t14 c14 x14 y14 p14, .FunctionDef n15 a15 b15 d15 r15 t15 c15 x15 y15 p15, s16, s17, s18, .FunctionDef n19 a19 b19 d19 r19 t19 c19 x19 y19 p19, .FunctionDef n20 a20 b20 d20 r20 t20 c20 x20 y20 p20, s21, .ClassDef ca22 cb22 cc22 [.FunctionDef n22 a22 b22 d22 r22 t22 c22 x22 y22 p22] cd22 ce22 cf22 cg22 ch22 ci22 cj22, s23, .FunctionDef n24 a24 b24 d24 r24 t24 c24 x24 y24 p24, s25, .FunctionDef n26 a26 b26 d26 r26 t26 c26 x26 y26 p26, s27, .FunctionDef n28 a28 b28 d28 r28 t28 c28 x28 y28 p28, .FunctionDef n29 a29 b29 d29 r29 t29 c29 x29 y29 p29, .FunctionDef n30 a30 b30 d30 r30 t30 c30 x30 y30 p30, .FunctionDef n31 a31 b31 d31 r31 t31 c31 x31 y31 p31, .FunctionDef n32 a32 b32 d32 r32 t32 c32 x32 y32 p32, .FunctionDef n33 a33 b33 d33 r33 t33 c33 x33 y33 p33] → Params → Frag) _ _ _ _ _ _ _ _ _ _ _ _ _ _ _ _ _ _ _ _ _ _ _ _ _ _ _ _ _ _ _ _ _ _ _ _ _ _ _ _ _ _ _ _ _ _ _ _ _ _ _ _ _ _ _ _ _ _ _ _ _ _ _ _ _ _ _ _ _ _ _ _ _ _ _ _ _ _ _ _ _ _ _ _ _ _ _ _ _ _ _ _ _ _ _ _ _ _ _ _ _ _ _ _ _ _ _ _ _ _ _ _ _ _ _ _ _ _ _ _ _ _ _ _ _ _ _ _ _ _ _ _ _ _ _ _ _ _ _ _ _ _ _ _ _ _ _ _ _ _ _ _ _ _ _ _ _ _ _ _ _ rfl
  intro s0 s1 s2 s3 s4 s5 s6 s7 s8 s9 s10 s11 s12 s13 n14 a14 b14 d14 r14 t14 c14 x14 y14 p14 n15 a15 b15 d15 r15 t15 c15 x15 y15 p15 s16 s17 s18 n19 a19 b19 d19 r19 t19 c19 x19 y19 p19 n20 a20 b20 d20 r20 t20 c20 x20 y20 p20 s21 n22 a22 b22 d22 r22 t22 c22 x22 y22 p22 ca22 cb22 cc22 cd22 ce22 cf22 cg22 ch22 ci22 cj22 s23 n24 a24 b24 d24 r24 t24 c24 x24 y24 p24 s25 n26 a26 b26 d26 r26 t26 c26 x26 y26 p26 s27 n28 a28 b28 d28 r28 t28 c28 x28 y28 p28 n29 a29 b29 d29 r29 t29 c29 x29 y29 p29 n30 a30 b30 d30 r30 t30 c30 x30 y30 p30 n31 a31 b31 d31 r31 t31 c31 x31 y31 p31 n32 a32 b32 d32 r32 t32 c32 x32 y32 p32 n33 a33 b33 d33 r33 t33 c33 x33 y33 p33 _
  exact fun P => (((nat_lit 2), (Obj.mk Value.none Option.none (Data.dict (List.toArray []) 0) (List.toArray []))) :: ((nat_lit 3), (Obj.mk (Value.type "dict") Option.none (Data.dict (List.toArray [(DictEntry.mk (PyData.keyHash P (Str.ofString "__name__")) (Value.str (Str.ofString "__name__") 165) (Value.str (Str.ofString "law_ik0034_01") 1839)), (DictEntry.mk (PyData.keyHash P (Str.ofString "__doc__")) (Value.str (Str.ofString "__doc__") 166) Value.none), (DictEntry.mk (PyData.keyHash P (Str.ofString "__package__")) (Value.str (Str.ofString "__package__") 167) Value.none), (DictEntry.mk (PyData.keyHash P (Str.ofString "__loader__")) (Value.str (Str.ofString "__loader__") 168) (Value.builtin "__main__.__loader__#opaque")), (DictEntry.mk (PyData.keyHash P (Str.ofString "__spec__")) (Value.str (Str.ofString "__spec__") 169) Value.none), (DictEntry.mk (PyData.keyHash P (Str.ofString "__annotations__")) (Value.str (Str.ofString "__annotations__") 170) (Value.ref 6)), (DictEntry.mk (PyData.keyHash P (Str.ofString "__builtins__")) (Value.str (Str.ofString "__builtins__") 171) (Value.ref 4)), (DictEntry.mk (PyData.keyHash P (Str.ofString "__file__")) (Value.str (Str.ofString "__file__") 173) (Value.str (Str.ofString "/claim/cut.py") 172)), (DictEntry.mk (PyData.keyHash P (Str.ofString "__cached__")) (Value.str (Str.ofString "__cached__") 174) Value.none), (DictEntry.mk (PyData.keyHash P (Str.ofString "CRLF")) (Value.str (Str.ofString "CRLF") 188) (Value.str (Str.ofString "\x0d\n") 187)), (DictEntry.mk (PyData.keyHash P (Str.ofString "NL")) (Value.str (Str.ofString "NL") 190) (Value.str (Str.ofString "\n") 189)), (DictEntry.mk (PyData.keyHash P (Str.ofString "_QUOPRI_MAP")) (Value.str (Str.ofString "_QUOPRI_MAP") 1218) (Value.ref 17)), (DictEntry.mk (PyData.keyHash P (Str.ofString "_QUOPRI_HEADER_MAP")) (Value.str (Str.ofString "_QUOPRI_HEADER_MAP") 1219) (Value.ref 22)), (DictEntry.mk (PyData.keyHash P (Str.ofString "_QUOPRI_BODY_MAP")) (Value.str (Str.ofString "_QUOPRI_BODY_MAP") 1220) (Value.ref 24)), (DictEntry.mk (PyData.keyHash P (Str.ofString "ascii_lowercase")) (Value.str (Str.ofString "ascii_lowercase") 1222) (Value.str (Str.ofString "abcdefghijklmnopqrstuvwxyz") 1221)), (DictEntry.mk (PyData.keyHash P (Str.ofString "ascii_uppercase")) (Value.str (Str.ofString "ascii_uppercase") 1224) (Value.str (Str.ofString "ABCDEFGHIJKLMNOPQRSTUVWXYZ") 1223)), (DictEntry.mk (PyData.keyHash P (Str.ofString "ascii_letters")) (Value.str (Str.ofString "ascii_letters") 1226) (Value.str (Str.ofString "abcdefghijklmnopqrstuvwxyzABCDEFGHIJKLMNOPQRSTUVWXYZ") 1225)), (DictEntry.mk (PyData.keyHash P (Str.ofString "digits")) (Value.str (Str.ofString "digits") 1228) (Value.str (Str.ofString "0123456789") 1227)), (DictEntry.mk (PyData.keyHash P (Str.ofString "hexdigits")) (Value.str (Str.ofString "hexdigits") 1233) (Value.str (Str.ofString "0123456789abcdefABCDEF") 1232)), (DictEntry.mk (PyData.keyHash P (Str.ofString "unquote")) (Value.str (Str.ofString "unquote") 1739) (Value.ref 37)), (DictEntry.mk (PyData.keyHash P (Str.ofString "quote")) (Value.str (Str.ofString "quote") 1746) (Value.ref 44)), (DictEntry.mk (PyData.keyHash P (Str.ofString "_QUOPRI_BODY_ENCODE_MAP")) (Value.str (Str.ofString "_QUOPRI_BODY_ENCODE_MAP") 1747) (Value.ref 46)), (DictEntry.mk (PyData.keyHash P (Str.ofString "body_encode")) (Value.str (Str.ofString "body_encode") 1774) (Value.ref 57)), (DictEntry.mk (PyData.keyHash P (Str.ofString "decode")) (Value.str (Str.ofString "decode") 1787) (Value.ref 65)), (DictEntry.mk (PyData.keyHash P (Str.ofString "_Unknown")) (Value.str (Str.ofString "_Unknown") 1816) (Value.ref 82)), (DictEntry.mk (PyData.keyHash P (Str.ofString "UNKNOWN")) (Value.str (Str.ofString "UNKNOWN") 1817) (Value.ref 88)), (DictEntry.mk (PyData.keyHash P (Str.ofString "_get_name_info")) (Value.str (Str.ofString "_get_name_info") 1827) (Value.ref 95)), (DictEntry.mk (PyData.keyHash P (Str.ofString "_NO_LINENO")) (Value.str (Str.ofString "_NO_LINENO") 1829) (Value.str (Str.ofString "  --") 1828)), (DictEntry.mk (PyData.keyHash P (Str.ofString "_get_lineno_width")) (Value.str (Str.ofString "_get_lineno_width") 1838) (Value.ref 102)), (DictEntry.mk (PyData.keyHash P (Str.ofString "_law_lines")) (Value.str (Str.ofString "_law_lines") 1846) (Value.ref 107)), (DictEntry.mk (PyData.keyHash P (Str.ofString "_law_row")) (Value.str (Str.ofString "_law_row") 1855) (Value.ref 114)), (DictEntry.mk (PyData.keyHash P (Str.ofString "_law_signs")) (Value.str (Str.ofString "_law_signs") 1861) (Value.ref 119)), (DictEntry.mk (PyData.keyHash P (Str.ofString "_law_parts")) (Value.str (Str.ofString "_law_parts") 1871) (Value.ref 126)), (DictEntry.mk (PyData.keyHash P (Str.ofString "_law_letter")) (Value.str (Str.ofString "_law_letter") 1877) (Value.ref 131)), (DictEntry.mk (PyData.keyHash P (Str.ofString "law")) (Value.str (Str.ofString "law") 1883) (Value.ref 136))]) 37) (List.toArray []))) :: ((nat_lit 6), (Obj.mk (Value.type "dict") Option.none (Data.dict (List.toArray []) 0) (List.toArray []))) :: ((nat_lit 17), (Obj.mk (Value.type "list") Option.none (Data.seq (List.toArray ((Value.str (Str.ofString "=00") 197) :: (Value.str (Str.ofString "=01") 201) :: (Value.str (Str.ofString "=02") 205) :: (Value.str (Str.ofString "=03") 209) :: (Value.str (Str.ofString "=04") 213) :: (Value.str (Str.ofString "=05") 217) :: (Value.str (Str.ofString "=06") 221) :: (Value.str (Str.ofString "=07") 225) :: (Value.str (Str.ofString "=08") 229) :: (Value.str (Str.ofString "=09") 233) :: (Value.str (Str.ofString "=0A") 237) :: (Value.str (Str.ofString "=0B") 241) :: (Value.str (Str.ofString "=0C") 245) :: (Value.str (Str.ofString "=0D") 249) :: (Value.str (Str.ofString "=0E") 253) :: (Value.str (Str.ofString "=0F") 257) :: (Value.str (Str.ofString "=10") 261) :: (Value.str (Str.ofString "=11") 265) :: (Value.str (Str.ofString "=12") 269) :: (Value.str (Str.ofString "=13") 273) :: (Value.str (Str.ofString "=14") 277) :: (Value.str (Str.ofString "=15") 281) :: (Value.str (Str.ofString "=16") 285) :: (Value.str (Str.ofString "=17") 289) :: (Value.str (Str.ofString "=18") 293) :: (Value.str (Str.ofString "=19") 297) :: (Value.str (Str.ofString "=1A") 301) :: (Value.str (Str.ofString "=1B") 305) :: (Value.str (Str.ofString "=1C") 309) :: (Value.str (Str.ofString "=1D") 313) :: (Value.str (Str.ofString "=1E") 317) :: (Value.str (Str.ofString "=1F") 321) :: (Value.str (Str.ofString "=20") 325) :: (Value.str (Str.ofString "=21") 329) :: (Value.str (Str.ofString "=22") 333) :: (Value.str (Str.ofString "=23") 337) :: (Value.str (Str.ofString "=24") 341) :: (Value.str (Str.ofString "=25") 345) :: (Value.str (Str.ofString "=26") 349) :: (Value.str (Str.ofString "=27") 353) :: (Value.str (Str.ofString "=28") 357) :: (Value.str (Str.ofString "=29") 361) :: (Value.str (Str.ofString "=2A") 365) :: (Value.str (Str.ofString "=2B") 369) :: (Value.str (Str.ofString "=2C") 373) :: (Value.str (Str.ofString "=2D") 377) :: (Value.str (Str.ofString "=2E") 381) :: (Value.str (Str.ofString "=2F") 385) :: (Value.str (Str.ofString "=30") 389) :: (Value.str (Str.ofString "=31") 393) :: (Value.str (Str.ofString "=32") 397) :: (Value.str (Str.ofString "=33") 401) :: (Value.str (Str.ofString "=34") 405) :: (Value.str (Str.ofString "=35") 409) :: (Value.str (Str.ofString "=36") 413) :: (Value.str (Str.ofString "=37") 417) :: (Value.str (Str.ofString "=38") 421) :: (Value.str (Str.ofString "=39") 425) :: (Value.str (Str.ofString "=3A") 429) :: (Value.str (Str.ofString "=3B") 433) :: (Value.str (Str.ofString "=3C") 437) :: (Value.str (Str.ofString "=3D") 441) :: (Value.str (Str.ofString "=3E") 445) :: (Value.str (Str.ofString "=3F") 449) :: (Value.str (Str.ofString "=40") 453) :: (Value.str (Str.ofString "=41") 457) :: (Value.str (Str.ofString "=42") 461) :: (Value.str (Str.ofString "=43") 465) :: (Value.str (Str.ofString "=44") 469) :: (Value.str (Str.ofString "=45") 473) :: (Value.str (Str.ofString "=46") 477) :: (Value.str (Str.ofString "=47") 481) :: (Value.str (Str.ofString "=48") 485) :: (Value.str (Str.ofString "=49") 489) :: (Value.str (Str.ofString "=4A") 493) :: (Value.str (Str.ofString "=4B") 497) :: (Value.str (Str.ofString "=4C") 501) :: (Value.str (Str.ofString "=4D") 505) :: (Value.str (Str.ofString "=4E") 509) :: (Value.str (Str.ofString "=4F") 513) :: (Value.str (Str.ofString "=50") 517) :: (Value.str (Str.ofString "=51") 521) :: (Value.str (Str.ofString "=52") 525) :: (Value.str (Str.ofString "=53") 529) :: (Value.str (Str.ofString "=54") 533) :: (Value.str (Str.ofString "=55") 537) :: (Value.str (Str.ofString "=56") 541) :: (Value.str (Str.ofString "=57") 545) :: (Value.str (Str.ofString "=58") 549) :: (Value.str (Str.ofString "=59") 553) :: (Value.str (Str.ofString "=5A") 557) :: (Value.str (Str.ofString "=5B") 561) :: (Value.str (Str.ofString "=5C") 565) :: (Value.str (Str.ofString "=5D") 569) :: (Value.str (Str.ofString "=5E") 573) :: (Value.str (Str.ofString "=5F") 577) :: (Value.str (Str.ofString "=60") 581) :: (Value.str (Str.ofString "=61") 585) :: (Value.str (Str.ofString "=62") 589) :: (Value.str (Str.ofString "=63") 593) :: (Value.str (Str.ofString "=64") 597) :: (Value.str (Str.ofString "=65") 601) :: (Value.str (Str.ofString "=66") 605) :: (Value.str (Str.ofString "=67") 609) :: (Value.str (Str.ofString "=68") 613) :: (Value.str (Str.ofString "=69") 617) :: (Value.str (Str.ofString "=6A") 621) :: (Value.str (Str.ofString "=6B") 625) :: (Value.str (Str.ofString "=6C") 629) :: (Value.str (Str.ofString "=6D") 633) :: (Value.str (Str.ofString "=6E") 637) :: (Value.str (Str.ofString "=6F") 641) :: (Value.str (Str.ofString "=70") 645) :: (Value.str (Str.ofString "=71") 649) :: (Value.str (Str.ofString "=72") 653) :: (Value.str (Str.ofString "=73") 657) :: (Value.str (Str.ofString "=74") 661) :: (Value.str (Str.ofString "=75") 665) :: (Value.str (Str.ofString "=76") 669) :: (Value.str (Str.ofString "=77") 673) :: (Value.str (Str.ofString "=78") 677) :: (Value.str (Str.ofString "=79") 681) :: (Value.str (Str.ofString "=7A") 685) :: (Value.str (Str.ofString "=7B") 689) :: (Value.str (Str.ofString "=7C") 693) :: (Value.str (Str.ofString "=7D") 697) :: (Value.str (Str.ofString "=7E") 701) :: (Value.str (Str.ofString "=7F") 705) :: (Value.str (Str.ofString "=80") 709) :: (Value.str (Str.ofString "=81") 713) :: (Value.str (Str.ofString "=82") 717) :: (Value.str (Str.ofString "=83") 721) :: (Value.str (Str.ofString "=84") 725) :: (Value.str (Str.ofString "=85") 729) :: (Value.str (Str.ofString "=86") 733) :: (Value.str (Str.ofString "=87") 737) :: (Value.str (Str.ofString "=88") 741) :: (Value.str (Str.ofString "=89") 745) :: (Value.str (Str.ofString "=8A") 749) :: (Value.str (Str.ofString "=8B") 753) :: (Value.str (Str.ofString "=8C") 757) :: (Value.str (Str.ofString "=8D") 761) :: (Value.str (Str.ofString "=8E") 765) :: (Value.str (Str.ofString "=8F") 769) :: (Value.str (Str.ofString "=90") 773) :: (Value.str (Str.ofString "=91") 777) :: (Value.str (Str.ofString "=92") 781) :: (Value.str (Str.ofString "=93") 785) :: (Value.str (Str.ofString "=94") 789) :: (Value.str (Str.ofString "=95") 793) :: (Value.str (Str.ofString "=96") 797) :: (Value.str (Str.ofString "=97") 801) :: (Value.str (Str.ofString "=98") 805) :: (Value.str (Str.ofString "=99") 809) :: (Value.str (Str.ofString "=9A") 813) :: (Value.str (Str.ofString "=9B") 817) :: (Value.str (Str.ofString "=9C") 821) :: (Value.str (Str.ofString "=9D") 825) :: (Value.str (Str.ofString "=9E") 829) :: (Value.str (Str.ofString "=9F") 833) :: (Value.str (Str.ofString "=A0") 837) :: (Value.str (Str.ofString "=A1") 841) :: (Value.str (Str.ofString "=A2") 845) :: (Value.str (Str.ofString "=A3") 849) :: (Value.str (Str.ofString "=A4") 853) :: (Value.str (Str.ofString "=A5") 857) :: (Value.str (Str.ofString "=A6") 861) :: (Value.str (Str.ofString "=A7") 865) :: (Value.str (Str.ofString "=A8") 869) :: (Value.str (Str.ofString "=A9") 873) :: (Value.str (Str.ofString "=AA") 877) :: (Value.str (Str.ofString "=AB") 881) :: (Value.str (Str.ofString "=AC") 885) :: (Value.str (Str.ofString "=AD") 889) :: (Value.str (Str.ofString "=AE") 893) :: (Value.str (Str.ofString "=AF") 897) :: (Value.str (Str.ofString "=B0") 901) :: (Value.str (Str.ofString "=B1") 905) :: (Value.str (Str.ofString "=B2") 909) :: (Value.str (Str.ofString "=B3") 913) :: (Value.str (Str.ofString "=B4") 917) :: (Value.str (Str.ofString "=B5") 921) :: (Value.str (Str.ofString "=B6") 925) :: (Value.str (Str.ofString "=B7") 929) :: (Value.str (Str.ofString "=B8") 933) :: (Value.str (Str.ofString "=B9") 937) :: (Value.str (Str.ofString "=BA") 941) :: (Value.str (Str.ofString "=BB") 945) :: (Value.str (Str.ofString "=BC") 949) :: (Value.str (Str.ofString "=BD") 953) :: (Value.str (Str.ofString "=BE") 957) :: (Value.str (Str.ofString "=BF") 961) :: (Value.str (Str.ofString "=C0") 965) :: (Value.str (Str.ofString "=C1") 969) :: (Value.str (Str.ofString "=C2") 973) :: (Value.str (Str.ofString "=C3") 977) :: (Value.str (Str.ofString "=C4") 981) :: (Value.str (Str.ofString "=C5") 985) :: (Value.str (Str.ofString "=C6") 989) :: (Value.str (Str.ofString "=C7") 993) :: (Value.str (Str.ofString "=C8") 997) :: (Value.str (Str.ofString "=C9") 1001) :: (Value.str (Str.ofString "=CA") 1005) :: (Value.str (Str.ofString "=CB") 1009) :: (Value.str (Str.ofString "=CC") 1013) :: (Value.str (Str.ofString "=CD") 1017) :: (Value.str (Str.ofString "=CE") 1021) :: (Value.str (Str.ofString "=CF") 1025) :: (Value.str (Str.ofString "=D0") 1029) :: (Value.str (Str.ofString "=D1") 1033) :: (Value.str (Str.ofString "=D2") 1037) :: (Value.str (Str.ofString "=D3") 1041) :: (Value.str (Str.ofString "=D4") 1045) :: (Value.str (Str.ofString "=D5") 1049) :: (Value.str (Str.ofString "=D6") 1053) :: (Value.str (Str.ofString "=D7") 1057) :: (Value.str (Str.ofString "=D8") 1061) :: (Value.str (Str.ofString "=D9") 1065) :: (Value.str (Str.ofString "=DA") 1069) :: (Value.str (Str.ofString "=DB") 1073) :: (Value.str (Str.ofString "=DC") 1077) :: (Value.str (Str.ofString "=DD") 1081) :: (Value.str (Str.ofString "=DE") 1085) :: (Value.str (Str.ofString "=DF") 1089) :: (Value.str (Str.ofString "=E0") 1093) :: (Value.str (Str.ofString "=E1") 1097) :: (Value.str (Str.ofString "=E2") 1101) :: (Value.str (Str.ofString "=E3") 1105) :: (Value.str (Str.ofString "=E4") 1109) :: (Value.str (Str.ofString "=E5") 1113) :: (Value.str (Str.ofString "=E6") 1117) :: (Value.str (Str.ofString "=E7") 1121) :: (Value.str (Str.ofString "=E8") 1125) :: (Value.str (Str.ofString "=E9") 1129) :: (Value.str (Str.ofString "=EA") 1133) :: (Value.str (Str.ofString "=EB") 1137) :: (Value.str (Str.ofString "=EC") 1141) :: (Value.str (Str.ofString "=ED") 1145) :: (Value.str (Str.ofString "=EE") 1149) :: (Value.str (Str.ofString "=EF") 1153) :: (Value.str (Str.ofString "=F0") 1157) :: (Value.str (Str.ofString "=F1") 1161) :: (Value.str (Str.ofString "=F2") 1165) :: (Value.str (Str.ofString "=F3") 1169) :: (Value.str (Str.ofString "=F4") 1173) :: (Value.str (Str.ofString "=F5") 1177) :: (Value.str (Str.ofString "=F6") 1181) :: (Value.str (Str.ofString "=F7") 1185) :: (Value.str (Str.ofString "=F8") 1189) :: (Value.str (Str.ofString "=F9") 1193) :: (Value.str (Str.ofString "=FA") 1197) :: (Value.str (Str.ofString "=FB") 1201) :: (Value.str (Str.ofString "=FC") 1205) :: (Value.str (Str.ofString "=FD") 1209) :: (Value.str (Str.ofString "=FE") 1213) :: (Value.str (Str.ofString "=FF") 1217) :: [])) 256) (List.toArray []))) :: ((nat_lit 22), (Obj.mk (Value.type "list") Option.none (Data.seq (List.toArray ((Value.str (Str.ofString "=00") 197) :: (Value.str (Str.ofString "=01") 201) :: (Value.str (Str.ofString "=02") 205) :: (Value.str (Str.ofString "=03") 209) :: (Value.str (Str.ofString "=04") 213) :: (Value.str (Str.ofString "=05") 217) :: (Value.str (Str.ofString "=06") 221) :: (Value.str (Str.ofString "=07") 225) :: (Value.str (Str.ofString "=08") 229) :: (Value.str (Str.ofString "=09") 233) :: (Value.str (Str.ofString "=0A") 237) :: (Value.str (Str.ofString "=0B") 241) :: (Value.str (Str.ofString "=0C") 245) :: (Value.str (Str.ofString "=0D") 249) :: (Value.str (Str.ofString "=0E") 253) :: (Value.str (Str.ofString "=0F") 257) :: (Value.str (Str.ofString "=10") 261) :: (Value.str (Str.ofString "=11") 265) :: (Value.str (Str.ofString "=12") 269) :: (Value.str (Str.ofString "=13") 273) :: (Value.str (Str.ofString "=14") 277) :: (Value.str (Str.ofString "=15") 281) :: (Value.str (Str.ofString "=16") 285) :: (Value.str (Str.ofString "=17") 289) :: (Value.str (Str.ofString "=18") 293) :: (Value.str (Str.ofString "=19") 297) :: (Value.str (Str.ofString "=1A") 301) :: (Value.str (Str.ofString "=1B") 305) :: (Value.str (Str.ofString "=1C") 309) :: (Value.str (Str.ofString "=1D") 313) :: (Value.str (Str.ofString "=1E") 317) :: (Value.str (Str.ofString "=1F") 321) :: (Value.str (Str.ofString "_") 1444) :: (Value.str (Str.ofString "!") 1248) :: (Value.str (Str.ofString "=22") 333) :: (Value.str (Str.ofString "=23") 337) :: (Value.str (Str.ofString "=24") 341) :: (Value.str (Str.ofString "=25") 345) :: (Value.str (Str.ofString "=26") 349) :: (Value.str (Str.ofString "=27") 353) :: (Value.str (Str.ofString "=28") 357) :: (Value.str (Str.ofString "=29") 361) :: (Value.str (Str.ofString "*") 1251) :: (Value.str (Str.ofString "+") 1254) :: (Value.str (Str.ofString "=2C") 373) :: (Value.str (Str.ofString "-") 1245) :: (Value.str (Str.ofString "=2E") 381) :: (Value.str (Str.ofString "/") 1257) :: (Value.str (Str.ofString "0") 1416) :: (Value.str (Str.ofString "1") 1419) :: (Value.str (Str.ofString "2") 1422) :: (Value.str (Str.ofString "3") 1425) :: (Value.str (Str.ofString "4") 1428) :: (Value.str (Str.ofString "5") 1431) :: (Value.str (Str.ofString "6") 1434) :: (Value.str (Str.ofString "7") 1437) :: (Value.str (Str.ofString "8") 1440) :: (Value.str (Str.ofString "9") 1443) :: (Value.str (Str.ofString "=3A") 429) :: (Value.str (Str.ofString "=3B") 433) :: (Value.str (Str.ofString "=3C") 437) :: (Value.str (Str.ofString "=3D") 441) :: (Value.str (Str.ofString "=3E") 445) :: (Value.str (Str.ofString "=3F") 449) :: (Value.str (Str.ofString "=40") 453) :: (Value.str (Str.ofString "A") 1338) :: (Value.str (Str.ofString "B") 1341) :: (Value.str (Str.ofString "C") 1344) :: (Value.str (Str.ofString "D") 1347) :: (Value.str (Str.ofString "E") 1350) :: (Value.str (Str.ofString "F") 1353) :: (Value.str (Str.ofString "G") 1356) :: (Value.str (Str.ofString "H") 1359) :: (Value.str (Str.ofString "I") 1362) :: (Value.str (Str.ofString "J") 1365) :: (Value.str (Str.ofString "K") 1368) :: (Value.str (Str.ofString "L") 1371) :: (Value.str (Str.ofString "M") 1374) :: (Value.str (Str.ofString "N") 1377) :: (Value.str (Str.ofString "O") 1380) :: (Value.str (Str.ofString "P") 1383) :: (Value.str (Str.ofString "Q") 1386) :: (Value.str (Str.ofString "R") 1389) :: (Value.str (Str.ofString "S") 1392) :: (Value.str (Str.ofString "T") 1395) :: (Value.str (Str.ofString "U") 1398) :: (Value.str (Str.ofString "V") 1401) :: (Value.str (Str.ofString "W") 1404) :: (Value.str (Str.ofString "X") 1407) :: (Value.str (Str.ofString "Y") 1410) :: (Value.str (Str.ofString "Z") 1413) :: (Value.str (Str.ofString "=5B") 561) :: (Value.str (Str.ofString "=5C") 565) :: (Value.str (Str.ofString "=5D") 569) :: (Value.str (Str.ofString "=5E") 573) :: (Value.str (Str.ofString "=5F") 577) :: (Value.str (Str.ofString "=60") 581) :: (Value.str (Str.ofString "a") 1260) :: (Value.str (Str.ofString "b") 1263) :: (Value.str (Str.ofString "c") 1266) :: (Value.str (Str.ofString "d") 1269) :: (Value.str (Str.ofString "e") 1272) :: (Value.str (Str.ofString "f") 1275) :: (Value.str (Str.ofString "g") 1278) :: (Value.str (Str.ofString "h") 1281) :: (Value.str (Str.ofString "i") 1284) :: (Value.str (Str.ofString "j") 1287) :: (Value.str (Str.ofString "k") 1290) :: (Value.str (Str.ofString "l") 1293) :: (Value.str (Str.ofString "m") 1296) :: (Value.str (Str.ofString "n") 1299) :: (Value.str (Str.ofString "o") 1302) :: (Value.str (Str.ofString "p") 1305) :: (Value.str (Str.ofString "q") 1308) :: (Value.str (Str.ofString "r") 1311) :: (Value.str (Str.ofString "s") 1314) :: (Value.str (Str.ofString "t") 1317) :: (Value.str (Str.ofString "u") 1320) :: (Value.str (Str.ofString "v") 1323) :: (Value.str (Str.ofString "w") 1326) :: (Value.str (Str.ofString "x") 1329) :: (Value.str (Str.ofString "y") 1332) :: (Value.str (Str.ofString "z") 1335) :: (Value.str (Str.ofString "=7B") 689) :: (Value.str (Str.ofString "=7C") 693) :: (Value.str (Str.ofString "=7D") 697) :: (Value.str (Str.ofString "=7E") 701) :: (Value.str (Str.ofString "=7F") 705) :: (Value.str (Str.ofString "=80") 709) :: (Value.str (Str.ofString "=81") 713) :: (Value.str (Str.ofString "=82") 717) :: (Value.str (Str.ofString "=83") 721) :: (Value.str (Str.ofString "=84") 725) :: (Value.str (Str.ofString "=85") 729) :: (Value.str (Str.ofString "=86") 733) :: (Value.str (Str.ofString "=87") 737) :: (Value.str (Str.ofString "=88") 741) :: (Value.str (Str.ofString "=89") 745) :: (Value.str (Str.ofString "=8A") 749) :: (Value.str (Str.ofString "=8B") 753) :: (Value.str (Str.ofString "=8C") 757) :: (Value.str (Str.ofString "=8D") 761) :: (Value.str (Str.ofString "=8E") 765) :: (Value.str (Str.ofString "=8F") 769) :: (Value.str (Str.ofString "=90") 773) :: (Value.str (Str.ofString "=91") 777) :: (Value.str (Str.ofString "=92") 781) :: (Value.str (Str.ofString "=93") 785) :: (Value.str (Str.ofString "=94") 789) :: (Value.str (Str.ofString "=95") 793) :: (Value.str (Str.ofString "=96") 797) :: (Value.str (Str.ofString "=97") 801) :: (Value.str (Str.ofString "=98") 805) :: (Value.str (Str.ofString "=99") 809) :: (Value.str (Str.ofString "=9A") 813) :: (Value.str (Str.ofString "=9B") 817) :: (Value.str (Str.ofString "=9C") 821) :: (Value.str (Str.ofString "=9D") 825) :: (Value.str (Str.ofString "=9E") 829) :: (Value.str (Str.ofString "=9F") 833) :: (Value.str (Str.ofString "=A0") 837) :: (Value.str (Str.ofString "=A1") 841) :: (Value.str (Str.ofString "=A2") 845) :: (Value.str (Str.ofString "=A3") 849) :: (Value.str (Str.ofString "=A4") 853) :: (Value.str (Str.ofString "=A5") 857) :: (Value.str (Str.ofString "=A6") 861) :: (Value.str (Str.ofString "=A7") 865) :: (Value.str (Str.ofString "=A8") 869) :: (Value.str (Str.ofString "=A9") 873) :: (Value.str (Str.ofString "=AA") 877) :: (Value.str (Str.ofString "=AB") 881) :: (Value.str (Str.ofString "=AC") 885) :: (Value.str (Str.ofString "=AD") 889) :: (Value.str (Str.ofString "=AE") 893) :: (Value.str (Str.ofString "=AF") 897) :: (Value.str (Str.ofString "=B0") 901) :: (Value.str (Str.ofString "=B1") 905) :: (Value.str (Str.ofString "=B2") 909) :: (Value.str (Str.ofString "=B3") 913) :: (Value.str (Str.ofString "=B4") 917) :: (Value.str (Str.ofString "=B5") 921) :: (Value.str (Str.ofString "=B6") 925) :: (Value.str (Str.ofString "=B7") 929) :: (Value.str (Str.ofString "=B8") 933) :: (Value.str (Str.ofString "=B9") 937) :: (Value.str (Str.ofString "=BA") 941) :: (Value.str (Str.ofString "=BB") 945) :: (Value.str (Str.ofString "=BC") 949) :: (Value.str (Str.ofString "=BD") 953) :: (Value.str (Str.ofString "=BE") 957) :: (Value.str (Str.ofString "=BF") 961) :: (Value.str (Str.ofString "=C0") 965) :: (Value.str (Str.ofString "=C1") 969) :: (Value.str (Str.ofString "=C2") 973) :: (Value.str (Str.ofString "=C3") 977) :: (Value.str (Str.ofString "=C4") 981) :: (Value.str (Str.ofString "=C5") 985) :: (Value.str (Str.ofString "=C6") 989) :: (Value.str (Str.ofString "=C7") 993) :: (Value.str (Str.ofString "=C8") 997) :: (Value.str (Str.ofString "=C9") 1001) :: (Value.str (Str.ofString "=CA") 1005) :: (Value.str (Str.ofString "=CB") 1009) :: (Value.str (Str.ofString "=CC") 1013) :: (Value.str (Str.ofString "=CD") 1017) :: (Value.str (Str.ofString "=CE") 1021) :: (Value.str (Str.ofString "=CF") 1025) :: (Value.str (Str.ofString "=D0") 1029) :: (Value.str (Str.ofString "=D1") 1033) :: (Value.str (Str.ofString "=D2") 1037) :: (Value.str (Str.ofString "=D3") 1041) :: (Value.str (Str.ofString "=D4") 1045) :: (Value.str (Str.ofString "=D5") 1049) :: (Value.str (Str.ofString "=D6") 1053) :: (Value.str (Str.ofString "=D7") 1057) :: (Value.str (Str.ofString "=D8") 1061) :: (Value.str (Str.ofString "=D9") 1065) :: (Value.str (Str.ofString "=DA") 1069) :: (Value.str (Str.ofString "=DB") 1073) :: (Value.str (Str.ofString "=DC") 1077) :: (Value.str (Str.ofString "=DD") 1081) :: (Value.str (Str.ofString "=DE") 1085) :: (Value.str (Str.ofString "=DF") 1089) :: (Value.str (Str.ofString "=E0") 1093) :: (Value.str (Str.ofString "=E1") 1097) :: (Value.str (Str.ofString "=E2") 1101) :: (Value.str (Str.ofString "=E3") 1105) :: (Value.str (Str.ofString "=E4") 1109) :: (Value.str (Str.ofString "=E5") 1113) :: (Value.str (Str.ofString "=E6") 1117) :: (Value.str (Str.ofString "=E7") 1121) :: (Value.str (Str.ofString "=E8") 1125) :: (Value.str (Str.ofString "=E9") 1129) :: (Value.str (Str.ofString "=EA") 1133) :: (Value.str (Str.ofString "=EB") 1137) :: (Value.str (Str.ofString "=EC") 1141) :: (Value.str (Str.ofString "=ED") 1145) :: (Value.str (Str.ofString "=EE") 1149) :: (Value.str (Str.ofString "=EF") 1153) :: (Value.str (Str.ofString "=F0") 1157) :: (Value.str (Str.ofString "=F1") 1161) :: (Value.str (Str.ofString "=F2") 1165) :: (Value.str (Str.ofString "=F3") 1169) :: (Value.str (Str.ofString "=F4") 1173) :: (Value.str (Str.ofString "=F5") 1177) :: (Value.str (Str.ofString "=F6") 1181) :: (Value.str (Str.ofString "=F7") 1185) :: (Value.str (Str.ofString "=F8") 1189) :: (Value.str (Str.ofString "=F9") 1193) :: (Value.str (Str.ofString "=FA") 1197) :: (Value.str (Str.ofString "=FB") 1201) :: (Value.str (Str.ofString "=FC") 1205) :: (Value.str (Str.ofString "=FD") 1209) :: (Value.str (Str.ofString "=FE") 1213) :: (Value.str (Str.ofString "=FF") 1217) :: [])) 0) (List.toArray []))) :: ((nat_lit 24), (Obj.mk (Value.type "list") Option.none (Data.seq (List.toArray ((Value.str (Str.ofString "=00") 197) :: (Value.str (Str.ofString "=01") 201) :: (Value.str (Str.ofString "=02") 205) :: (Value.str (Str.ofString "=03") 209) :: (Value.str (Str.ofString "=04") 213) :: (Value.str (Str.ofString "=05") 217) :: (Value.str (Str.ofString "=06") 221) :: (Value.str (Str.ofString "=07") 225) :: (Value.str (Str.ofString "=08") 229) :: (Value.str (Str.ofString "\t") 1732) :: (Value.str (Str.ofString "=0A") 237) :: (Value.str (Str.ofString "=0B") 241) :: (Value.str (Str.ofString "=0C") 245) :: (Value.str (Str.ofString "=0D") 249) :: (Value.str (Str.ofString "=0E") 253) :: (Value.str (Str.ofString "=0F") 257) :: (Value.str (Str.ofString "=10") 261) :: (Value.str (Str.ofString "=11") 265) :: (Value.str (Str.ofString "=12") 269) :: (Value.str (Str.ofString "=13") 273) :: (Value.str (Str.ofString "=14") 277) :: (Value.str (Str.ofString "=15") 281) :: (Value.str (Str.ofString "=16") 285) :: (Value.str (Str.ofString "=17") 289) :: (Value.str (Str.ofString "=18") 293) :: (Value.str (Str.ofString "=19") 297) :: (Value.str (Str.ofString "=1A") 301) :: (Value.str (Str.ofString "=1B") 305) :: (Value.str (Str.ofString "=1C") 309) :: (Value.str (Str.ofString "=1D") 313) :: (Value.str (Str.ofString "=1E") 317) :: (Value.str (Str.ofString "=1F") 321) :: (Value.str (Str.ofString " ") 1450) :: (Value.str (Str.ofString "!") 1453) :: (Value.str (Str.ofString "\"") 1456) :: (Value.str (Str.ofString "#") 1459) :: (Value.str (Str.ofString "$") 1462) :: (Value.str (Str.ofString "%") 1465) :: (Value.str (Str.ofString "&") 1468) :: (Value.str (Str.ofString "'") 1471) :: (Value.str (Str.ofString "(") 1474) :: (Value.str (Str.ofString ")") 1477) :: (Value.str (Str.ofString "*") 1480) :: (Value.str (Str.ofString "+") 1483) :: (Value.str (Str.ofString ",") 1486) :: (Value.str (Str.ofString "-") 1489) :: (Value.str (Str.ofString ".") 1492) :: (Value.str (Str.ofString "/") 1495) :: (Value.str (Str.ofString "0") 1498) :: (Value.str (Str.ofString "1") 1501) :: (Value.str (Str.ofString "2") 1504) :: (Value.str (Str.ofString "3") 1507) :: (Value.str (Str.ofString "4") 1510) :: (Value.str (Str.ofString "5") 1513) :: (Value.str (Str.ofString "6") 1516) :: (Value.str (Str.ofString "7") 1519) :: (Value.str (Str.ofString "8") 1522) :: (Value.str (Str.ofString "9") 1525) :: (Value.str (Str.ofString ":") 1528) :: (Value.str (Str.ofString ";") 1531) :: (Value.str (Str.ofString "<") 1534) :: (Value.str (Str.ofString "=3D") 441) :: (Value.str (Str.ofString ">") 1537) :: (Value.str (Str.ofString "?") 1540) :: (Value.str (Str.ofString "@") 1543) :: (Value.str (Str.ofString "A") 1546) :: (Value.str (Str.ofString "B") 1549) :: (Value.str (Str.ofString "C") 1552) :: (Value.str (Str.ofString "D") 1555) :: (Value.str (Str.ofString "E") 1558) :: (Value.str (Str.ofString "F") 1561) :: (Value.str (Str.ofString "G") 1564) :: (Value.str (Str.ofString "H") 1567) :: (Value.str (Str.ofString "I") 1570) :: (Value.str (Str.ofString "J") 1573) :: (Value.str (Str.ofString "K") 1576) :: (Value.str (Str.ofString "L") 1579) :: (Value.str (Str.ofString "M") 1582) :: (Value.str (Str.ofString "N") 1585) :: (Value.str (Str.ofString "O") 1588) :: (Value.str (Str.ofString "P") 1591) :: (Value.str (Str.ofString "Q") 1594) :: (Value.str (Str.ofString "R") 1597) :: (Value.str (Str.ofString "S") 1600) :: (Value.str (Str.ofString "T") 1603) :: (Value.str (Str.ofString "U") 1606) :: (Value.str (Str.ofString "V") 1609) :: (Value.str (Str.ofString "W") 1612) :: (Value.str (Str.ofString "X") 1615) :: (Value.str (Str.ofString "Y") 1618) :: (Value.str (Str.ofString "Z") 1621) :: (Value.str (Str.ofString "[") 1624) :: (Value.str (Str.ofString "\\") 1627) :: (Value.str (Str.ofString "]") 1630) :: (Value.str (Str.ofString "^") 1633) :: (Value.str (Str.ofString "_") 1636) :: (Value.str (Str.ofString "`") 1639) :: (Value.str (Str.ofString "a") 1642) :: (Value.str (Str.ofString "b") 1645) :: (Value.str (Str.ofString "c") 1648) :: (Value.str (Str.ofString "d") 1651) :: (Value.str (Str.ofString "e") 1654) :: (Value.str (Str.ofString "f") 1657) :: (Value.str (Str.ofString "g") 1660) :: (Value.str (Str.ofString "h") 1663) :: (Value.str (Str.ofString "i") 1666) :: (Value.str (Str.ofString "j") 1669) :: (Value.str (Str.ofString "k") 1672) :: (Value.str (Str.ofString "l") 1675) :: (Value.str (Str.ofString "m") 1678) :: (Value.str (Str.ofString "n") 1681) :: (Value.str (Str.ofString "o") 1684) :: (Value.str (Str.ofString "p") 1687) :: (Value.str (Str.ofString "q") 1690) :: (Value.str (Str.ofString "r") 1693) :: (Value.str (Str.ofString "s") 1696) :: (Value.str (Str.ofString "t") 1699) :: (Value.str (Str.ofString "u") 1702) :: (Value.str (Str.ofString "v") 1705) :: (Value.str (Str.ofString "w") 1708) :: (Value.str (Str.ofString "x") 1711) :: (Value.str (Str.ofString "y") 1714) :: (Value.str (Str.ofString "z") 1717) :: (Value.str (Str.ofString "{") 1720) :: (Value.str (Str.ofString "|") 1723) :: (Value.str (Str.ofString "}") 1726) :: (Value.str (Str.ofString "~") 1729) :: (Value.str (Str.ofString "=7F") 705) :: (Value.str (Str.ofString "=80") 709) :: (Value.str (Str.ofString "=81") 713) :: (Value.str (Str.ofString "=82") 717) :: (Value.str (Str.ofString "=83") 721) :: (Value.str (Str.ofString "=84") 725) :: (Value.str (Str.ofString "=85") 729) :: (Value.str (Str.ofString "=86") 733) :: (Value.str (Str.ofString "=87") 737) :: (Value.str (Str.ofString "=88") 741) :: (Value.str (Str.ofString "=89") 745) :: (Value.str (Str.ofString "=8A") 749) :: (Value.str (Str.ofString "=8B") 753) :: (Value.str (Str.ofString "=8C") 757) :: (Value.str (Str.ofString "=8D") 761) :: (Value.str (Str.ofString "=8E") 765) :: (Value.str (Str.ofString "=8F") 769) :: (Value.str (Str.ofString "=90") 773) :: (Value.str (Str.ofString "=91") 777) :: (Value.str (Str.ofString "=92") 781) :: (Value.str (Str.ofString "=93") 785) :: (Value.str (Str.ofString "=94") 789) :: (Value.str (Str.ofString "=95") 793) :: (Value.str (Str.ofString "=96") 797) :: (Value.str (Str.ofString "=97") 801) :: (Value.str (Str.ofString "=98") 805) :: (Value.str (Str.ofString "=99") 809) :: (Value.str (Str.ofString "=9A") 813) :: (Value.str (Str.ofString "=9B") 817) :: (Value.str (Str.ofString "=9C") 821) :: (Value.str (Str.ofString "=9D") 825) :: (Value.str (Str.ofString "=9E") 829) :: (Value.str (Str.ofString "=9F") 833) :: (Value.str (Str.ofString "=A0") 837) :: (Value.str (Str.ofString "=A1") 841) :: (Value.str (Str.ofString "=A2") 845) :: (Value.str (Str.ofString "=A3") 849) :: (Value.str (Str.ofString "=A4") 853) :: (Value.str (Str.ofString "=A5") 857) :: (Value.str (Str.ofString "=A6") 861) :: (Value.str (Str.ofString "=A7") 865) :: (Value.str (Str.ofString "=A8") 869) :: (Value.str (Str.ofString "=A9") 873) :: (Value.str (Str.ofString "=AA") 877) :: (Value.str (Str.ofString "=AB") 881) :: (Value.str (Str.ofString "=AC") 885) :: (Value.str (Str.ofString "=AD") 889) :: (Value.str (Str.ofString "=AE") 893) :: (Value.str (Str.ofString "=AF") 897) :: (Value.str (Str.ofString "=B0") 901) :: (Value.str (Str.ofString "=B1") 905) :: (Value.str (Str.ofString "=B2") 909) :: (Value.str (Str.ofString "=B3") 913) :: (Value.str (Str.ofString "=B4") 917) :: (Value.str (Str.ofString "=B5") 921) :: (Value.str (Str.ofString "=B6") 925) :: (Value.str (Str.ofString "=B7") 929) :: (Value.str (Str.ofString "=B8") 933) :: (Value.str (Str.ofString "=B9") 937) :: (Value.str (Str.ofString "=BA") 941) :: (Value.str (Str.ofString "=BB") 945) :: (Value.str (Str.ofString "=BC") 949) :: (Value.str (Str.ofString "=BD") 953) :: (Value.str (Str.ofString "=BE") 957) :: (Value.str (Str.ofString "=BF") 961) :: (Value.str (Str.ofString "=C0") 965) :: (Value.str (Str.ofString "=C1") 969) :: (Value.str (Str.ofString "=C2") 973) :: (Value.str (Str.ofString "=C3") 977) :: (Value.str (Str.ofString "=C4") 981) :: (Value.str (Str.ofString "=C5") 985) :: (Value.str (Str.ofString "=C6") 989) :: (Value.str (Str.ofString "=C7") 993) :: (Value.str (Str.ofString "=C8") 997) :: (Value.str (Str.ofString "=C9") 1001) :: (Value.str (Str.ofString "=CA") 1005) :: (Value.str (Str.ofString "=CB") 1009) :: (Value.str (Str.ofString "=CC") 1013) :: (Value.str (Str.ofString "=CD") 1017) :: (Value.str (Str.ofString "=CE") 1021) :: (Value.str (Str.ofString "=CF") 1025) :: (Value.str (Str.ofString "=D0") 1029) :: (Value.str (Str.ofString "=D1") 1033) :: (Value.str (Str.ofString "=D2") 1037) :: (Value.str (Str.ofString "=D3") 1041) :: (Value.str (Str.ofString "=D4") 1045) :: (Value.str (Str.ofString "=D5") 1049) :: (Value.str (Str.ofString "=D6") 1053) :: (Value.str (Str.ofString "=D7") 1057) :: (Value.str (Str.ofString "=D8") 1061) :: (Value.str (Str.ofString "=D9") 1065) :: (Value.str (Str.ofString "=DA") 1069) :: (Value.str (Str.ofString "=DB") 1073) :: (Value.str (Str.ofString "=DC") 1077) :: (Value.str (Str.ofString "=DD") 1081) :: (Value.str (Str.ofString "=DE") 1085) :: (Value.str (Str.ofString "=DF") 1089) :: (Value.str (Str.ofString "=E0") 1093) :: (Value.str (Str.ofString "=E1") 1097) :: (Value.str (Str.ofString "=E2") 1101) :: (Value.str (Str.ofString "=E3") 1105) :: (Value.str (Str.ofString "=E4") 1109) :: (Value.str (Str.ofString "=E5") 1113) :: (Value.str (Str.ofString "=E6") 1117) :: (Value.str (Str.ofString "=E7") 1121) :: (Value.str (Str.ofString "=E8") 1125) :: (Value.str (Str.ofString "=E9") 1129) :: (Value.str (Str.ofString "=EA") 1133) :: (Value.str (Str.ofString "=EB") 1137) :: (Value.str (Str.ofString "=EC") 1141) :: (Value.str (Str.ofString "=ED") 1145) :: (Value.str (Str.ofString "=EE") 1149) :: (Value.str (Str.ofString "=EF") 1153) :: (Value.str (Str.ofString "=F0") 1157) :: (Value.str (Str.ofString "=F1") 1161) :: (Value.str (Str.ofString "=F2") 1165) :: (Value.str (Str.ofString "=F3") 1169) :: (Value.str (Str.ofString "=F4") 1173) :: (Value.str (Str.ofString "=F5") 1177) :: (Value.str (Str.ofString "=F6") 1181) :: (Value.str (Str.ofString "=F7") 1185) :: (Value.str (Str.ofString "=F8") 1189) :: (Value.str (Str.ofString "=F9") 1193) :: (Value.str (Str.ofString "=FA") 1197) :: (Value.str (Str.ofString "=FB") 1201) :: (Value.str (Str.ofString "=FC") 1205) :: (Value.str (Str.ofString "=FD") 1209) :: (Value.str (Str.ofString "=FE") 1213) :: (Value.str (Str.ofString "=FF") 1217) :: [])) 0) (List.toArray []))) :: ((nat_lit 31), (Obj.mk (Value.type "tuple") Option.none (Data.seq (List.toArray []) 0) (List.toArray []))) :: ((nat_lit 33), (Obj.mk (Value.type "tuple") Option.none (Data.seq (List.toArray [(Value.str (Str.ofString "s") 1736)]) 0) (List.toArray []))) :: ((nat_lit 34), (Obj.mk (Value.type "tuple") Option.none (Data.seq (List.toArray []) 0) (List.toArray []))) :: ((nat_lit 36), (Obj.mk (Value.type "code") Option.none (Data.fields (List.toArray [(Value.str (Str.ofString "unquote") 1733), (Value.str (Str.ofString "unquote") 1734), (Value.str (Str.ofString "/claim/cut.py") 1735), (Value.int 17 0), (Value.int 1 0), (Value.int 0 0), (Value.int 0 0), (Value.int 3 0), (Value.ref 31), (Value.bool Bool.true), (Value.int 181 0), (Value.ref 32), Value.none, (Value.ref 33), (Value.ref 34), (Value.ref 35), (Value.int 1737 0), (Value.int 17 0), (Value.str (Str.ofString "/claim/cut.py") 1738)])) (List.toArray []))) :: ((nat_lit 37), (Obj.mk (Value.type "function") Option.none (Data.func (FuncData.mk (Str.ofString "unquote") (Str.ofString "unquote") a14 (.stmts b14) c14 3 [] Value.none Value.none Value.none (Value.str (Str.ofString "cpy313.email.quoprimime") 1234) Option.none (Value.ref 36) Value.none 0)) (List.toArray []))) :: ((nat_lit 38), (Obj.mk (Value.type "tuple") Option.none (Data.seq (List.toArray []) 0) (List.toArray []))) :: ((nat_lit 40), (Obj.mk (Value.type "tuple") Option.none (Data.seq (List.toArray [(Value.str (Str.ofString "c") 1743)]) 0) (List.toArray []))) :: ((nat_lit 41), (Obj.mk (Value.type "tuple") Option.none (Data.seq (List.toArray []) 0) (List.toArray []))) :: ((nat_lit 43), (Obj.mk (Value.type "code") Option.none (Data.fields (List.toArray [(Value.str (Str.ofString "quote") 1740), (Value.str (Str.ofString "quote") 1741), (Value.str (Str.ofString "/claim/cut.py") 1742), (Value.int 19 0), (Value.int 1 0), (Value.int 0 0), (Value.int 0 0), (Value.int 3 0), (Value.ref 38), (Value.bool Bool.true), (Value.int 181 0), (Value.ref 39), Value.none, (Value.ref 40), (Value.ref 41), (Value.ref 42), (Value.int 1744 0), (Value.int 19 0), (Value.str (Str.ofString "/claim/cut.py") 1745)])) (List.toArray []))) :: ((nat_lit 44), (Obj.mk (Value.type "function") Option.none (Data.func (FuncData.mk (Str.ofString "quote") (Str.ofString "quote") a15 (.stmts b15) c15 3 [] Value.none Value.none Value.none (Value.str (Str.ofString "cpy313.email.quoprimime") 1234) Option.none (Value.ref 43) Value.none 0)) (List.toArray []))) :: ((nat_lit 46), (Obj.mk (Value.type "list") Option.none (Data.seq (List.toArray ((Value.str (Str.ofString "=00") 197) :: (Value.str (Str.ofString "=01") 201) :: (Value.str (Str.ofString "=02") 205) :: (Value.str (Str.ofString "=03") 209) :: (Value.str (Str.ofString "=04") 213) :: (Value.str (Str.ofString "=05") 217) :: (Value.str (Str.ofString "=06") 221) :: (Value.str (Str.ofString "=07") 225) :: (Value.str (Str.ofString "=08") 229) :: (Value.str (Str.ofString "\t") 1732) :: (Value.str (Str.ofString "\n") 1754) :: (Value.str (Str.ofString "=0B") 241) :: (Value.str (Str.ofString "=0C") 245) :: (Value.str (Str.ofString "\x0d") 1751) :: (Value.str (Str.ofString "=0E") 253) :: (Value.str (Str.ofString "=0F") 257) :: (Value.str (Str.ofString "=10") 261) :: (Value.str (Str.ofString "=11") 265) :: (Value.str (Str.ofString "=12") 269) :: (Value.str (Str.ofString "=13") 273) :: (Value.str (Str.ofString "=14") 277) :: (Value.str (Str.ofString "=15") 281) :: (Value.str (Str.ofString "=16") 285) :: (Value.str (Str.ofString "=17") 289) :: (Value.str (Str.ofString "=18") 293) :: (Value.str (Str.ofString "=19") 297) :: (Value.str (Str.ofString "=1A") 301) :: (Value.str (Str.ofString "=1B") 305) :: (Value.str (Str.ofString "=1C") 309) :: (Value.str (Str.ofString "=1D") 313) :: (Value.str (Str.ofString "=1E") 317) :: (Value.str (Str.ofString "=1F") 321) :: (Value.str (Str.ofString " ") 1450) :: (Value.str (Str.ofString "!") 1453) :: (Value.str (Str.ofString "\"") 1456) :: (Value.str (Str.ofString "#") 1459) :: (Value.str (Str.ofString "$") 1462) :: (Value.str (Str.ofString "%") 1465) :: (Value.str (Str.ofString "&") 1468) :: (Value.str (Str.ofString "'") 1471) :: (Value.str (Str.ofString "(") 1474) :: (Value.str (Str.ofString ")") 1477) :: (Value.str (Str.ofString "*") 1480) :: (Value.str (Str.ofString "+") 1483) :: (Value.str (Str.ofString ",") 1486) :: (Value.str (Str.ofString "-") 1489) :: (Value.str (Str.ofString ".") 1492) :: (Value.str (Str.ofString "/") 1495) :: (Value.str (Str.ofString "0") 1498) :: (Value.str (Str.ofString "1") 1501) :: (Value.str (Str.ofString "2") 1504) :: (Value.str (Str.ofString "3") 1507) :: (Value.str (Str.ofString "4") 1510) :: (Value.str (Str.ofString "5") 1513) :: (Value.str (Str.ofString "6") 1516) :: (Value.str (Str.ofString "7") 1519) :: (Value.str (Str.ofString "8") 1522) :: (Value.str (Str.ofString "9") 1525) :: (Value.str (Str.ofString ":") 1528) :: (Value.str (Str.ofString ";") 1531) :: (Value.str (Str.ofString "<") 1534) :: (Value.str (Str.ofString "=3D") 441) :: (Value.str (Str.ofString ">") 1537) :: (Value.str (Str.ofString "?") 1540) :: (Value.str (Str.ofString "@") 1543) :: (Value.str (Str.ofString "A") 1546) :: (Value.str (Str.ofString "B") 1549) :: (Value.str (Str.ofString "C") 1552) :: (Value.str (Str.ofString "D") 1555) :: (Value.str (Str.ofString "E") 1558) :: (Value.str (Str.ofString "F") 1561) :: (Value.str (Str.ofString "G") 1564) :: (Value.str (Str.ofString "H") 1567) :: (Value.str (Str.ofString "I") 1570) :: (Value.str (Str.ofString "J") 1573) :: (Value.str (Str.ofString "K") 1576) :: (Value.str (Str.ofString "L") 1579) :: (Value.str (Str.ofString "M") 1582) :: (Value.str (Str.ofString "N") 1585) :: (Value.str (Str.ofString "O") 1588) :: (Value.str (Str.ofString "P") 1591) :: (Value.str (Str.ofString "Q") 1594) :: (Value.str (Str.ofString "R") 1597) :: (Value.str (Str.ofString "S") 1600) :: (Value.str (Str.ofString "T") 1603) :: (Value.str (Str.ofString "U") 1606) :: (Value.str (Str.ofString "V") 1609) :: (Value.str (Str.ofString "W") 1612) :: (Value.str (Str.ofString "X") 1615) :: (Value.str (Str.ofString "Y") 1618) :: (Value.str (Str.ofString "Z") 1621) :: (Value.str (Str.ofString "[") 1624) :: (Value.str (Str.ofString "\\") 1627) :: (Value.str (Str.ofString "]") 1630) :: (Value.str (Str.ofString "^") 1633) :: (Value.str (Str.ofString "_") 1636) :: (Value.str (Str.ofString "`") 1639) :: (Value.str (Str.ofString "a") 1642) :: (Value.str (Str.ofString "b") 1645) :: (Value.str (Str.ofString "c") 1648) :: (Value.str (Str.ofString "d") 1651) :: (Value.str (Str.ofString "e") 1654) :: (Value.str (Str.ofString "f") 1657) :: (Value.str (Str.ofString "g") 1660) :: (Value.str (Str.ofString "h") 1663) :: (Value.str (Str.ofString "i") 1666) :: (Value.str (Str.ofString "j") 1669) :: (Value.str (Str.ofString "k") 1672) :: (Value.str (Str.ofString "l") 1675) :: (Value.str (Str.ofString "m") 1678) :: (Value.str (Str.ofString "n") 1681) :: (Value.str (Str.ofString "o") 1684) :: (Value.str (Str.ofString "p") 1687) :: (Value.str (Str.ofString "q") 1690) :: (Value.str (Str.ofString "r") 1693) :: (Value.str (Str.ofString "s") 1696) :: (Value.str (Str.ofString "t") 1699) :: (Value.str (Str.ofString "u") 1702) :: (Value.str (Str.ofString "v") 1705) :: (Value.str (Str.ofString "w") 1708) :: (Value.str (Str.ofString "x") 1711) :: (Value.str (Str.ofString "y") 1714) :: (Value.str (Str.ofString "z") 1717) :: (Value.str (Str.ofString "{") 1720) :: (Value.str (Str.ofString "|") 1723) :: (Value.str (Str.ofString "}") 1726) :: (Value.str (Str.ofString "~") 1729) :: (Value.str (Str.ofString "=7F") 705) :: (Value.str (Str.ofString "=80") 709) :: (Value.str (Str.ofString "=81") 713) :: (Value.str (Str.ofString "=82") 717) :: (Value.str (Str.ofString "=83") 721) :: (Value.str (Str.ofString "=84") 725) :: (Value.str (Str.ofString "=85") 729) :: (Value.str (Str.ofString "=86") 733) :: (Value.str (Str.ofString "=87") 737) :: (Value.str (Str.ofString "=88") 741) :: (Value.str (Str.ofString "=89") 745) :: (Value.str (Str.ofString "=8A") 749) :: (Value.str (Str.ofString "=8B") 753) :: (Value.str (Str.ofString "=8C") 757) :: (Value.str (Str.ofString "=8D") 761) :: (Value.str (Str.ofString "=8E") 765) :: (Value.str (Str.ofString "=8F") 769) :: (Value.str (Str.ofString "=90") 773) :: (Value.str (Str.ofString "=91") 777) :: (Value.str (Str.ofString "=92") 781) :: (Value.str (Str.ofString "=93") 785) :: (Value.str (Str.ofString "=94") 789) :: (Value.str (Str.ofString "=95") 793) :: (Value.str (Str.ofString "=96") 797) :: (Value.str (Str.ofString "=97") 801) :: (Value.str (Str.ofString "=98") 805) :: (Value.str (Str.ofString "=99") 809) :: (Value.str (Str.ofString "=9A") 813) :: (Value.str (Str.ofString "=9B") 817) :: (Value.str (Str.ofString "=9C") 821) :: (Value.str (Str.ofString "=9D") 825) :: (Value.str (Str.ofString "=9E") 829) :: (Value.str (Str.ofString "=9F") 833) :: (Value.str (Str.ofString "=A0") 837) :: (Value.str (Str.ofString "=A1") 841) :: (Value.str (Str.ofString "=A2") 845) :: (Value.str (Str.ofString "=A3") 849) :: (Value.str (Str.ofString "=A4") 853) :: (Value.str (Str.ofString "=A5") 857) :: (Value.str (Str.ofString "=A6") 861) :: (Value.str (Str.ofString "=A7") 865) :: (Value.str (Str.ofString "=A8") 869) :: (Value.str (Str.ofString "=A9") 873) :: (Value.str (Str.ofString "=AA") 877) :: (Value.str (Str.ofString "=AB") 881) :: (Value.str (Str.ofString "=AC") 885) :: (Value.str (Str.ofString "=AD") 889) :: (Value.str (Str.ofString "=AE") 893) :: (Value.str (Str.ofString "=AF") 897) :: (Value.str (Str.ofString "=B0") 901) :: (Value.str (Str.ofString "=B1") 905) :: (Value.str (Str.ofString "=B2") 909) :: (Value.str (Str.ofString "=B3") 913) :: (Value.str (Str.ofString "=B4") 917) :: (Value.str (Str.ofString "=B5") 921) :: (Value.str (Str.ofString "=B6") 925) :: (Value.str (Str.ofString "=B7") 929) :: (Value.str (Str.ofString "=B8") 933) :: (Value.str (Str.ofString "=B9") 937) :: (Value.str (Str.ofString "=BA") 941) :: (Value.str (Str.ofString "=BB") 945) :: (Value.str (Str.ofString "=BC") 949) :: (Value.str (Str.ofString "=BD") 953) :: (Value.str (Str.ofString "=BE") 957) :: (Value.str (Str.ofString "=BF") 961) :: (Value.str (Str.ofString "=C0") 965) :: (Value.str (Str.ofString "=C1") 969) :: (Value.str (Str.ofString "=C2") 973) :: (Value.str (Str.ofString "=C3") 977) :: (Value.str (Str.ofString "=C4") 981) :: (Value.str (Str.ofString "=C5") 985) :: (Value.str (Str.ofString "=C6") 989) :: (Value.str (Str.ofString "=C7") 993) :: (Value.str (Str.ofString "=C8") 997) :: (Value.str (Str.ofString "=C9") 1001) :: (Value.str (Str.ofString "=CA") 1005) :: (Value.str (Str.ofString "=CB") 1009) :: (Value.str (Str.ofString "=CC") 1013) :: (Value.str (Str.ofString "=CD") 1017) :: (Value.str (Str.ofString "=CE") 1021) :: (Value.str (Str.ofString "=CF") 1025) :: (Value.str (Str.ofString "=D0") 1029) :: (Value.str (Str.ofString "=D1") 1033) :: (Value.str (Str.ofString "=D2") 1037) :: (Value.str (Str.ofString "=D3") 1041) :: (Value.str (Str.ofString "=D4") 1045) :: (Value.str (Str.ofString "=D5") 1049) :: (Value.str (Str.ofString "=D6") 1053) :: (Value.str (Str.ofString "=D7") 1057) :: (Value.str (Str.ofString "=D8") 1061) :: (Value.str (Str.ofString "=D9") 1065) :: (Value.str (Str.ofString "=DA") 1069) :: (Value.str (Str.ofString "=DB") 1073) :: (Value.str (Str.ofString "=DC") 1077) :: (Value.str (Str.ofString "=DD") 1081) :: (Value.str (Str.ofString "=DE") 1085) :: (Value.str (Str.ofString "=DF") 1089) :: (Value.str (Str.ofString "=E0") 1093) :: (Value.str (Str.ofString "=E1") 1097) :: (Value.str (Str.ofString "=E2") 1101) :: (Value.str (Str.ofString "=E3") 1105) :: (Value.str (Str.ofString "=E4") 1109) :: (Value.str (Str.ofString "=E5") 1113) :: (Value.str (Str.ofString "=E6") 1117) :: (Value.str (Str.ofString "=E7") 1121) :: (Value.str (Str.ofString "=E8") 1125) :: (Value.str (Str.ofString "=E9") 1129) :: (Value.str (Str.ofString "=EA") 1133) :: (Value.str (Str.ofString "=EB") 1137) :: (Value.str (Str.ofString "=EC") 1141) :: (Value.str (Str.ofString "=ED") 1145) :: (Value.str (Str.ofString "=EE") 1149) :: (Value.str (Str.ofString "=EF") 1153) :: (Value.str (Str.ofString "=F0") 1157) :: (Value.str (Str.ofString "=F1") 1161) :: (Value.str (Str.ofString "=F2") 1165) :: (Value.str (Str.ofString "=F3") 1169) :: (Value.str (Str.ofString "=F4") 1173) :: (Value.str (Str.ofString "=F5") 1177) :: (Value.str (Str.ofString "=F6") 1181) :: (Value.str (Str.ofString "=F7") 1185) :: (Value.str (Str.ofString "=F8") 1189) :: (Value.str (Str.ofString "=F9") 1193) :: (Value.str (Str.ofString "=FA") 1197) :: (Value.str (Str.ofString "=FB") 1201) :: (Value.str (Str.ofString "=FC") 1205) :: (Value.str (Str.ofString "=FD") 1209) :: (Value.str (Str.ofString "=FE") 1213) :: (Value.str (Str.ofString "=FF") 1217) :: [])) 0) (List.toArray []))) :: ((nat_lit 50), (Obj.mk (Value.type "tuple") Option.none (Data.seq (List.toArray [(Value.int 76 1755), (Value.str (Str.ofString "\n") 189)]) 0) (List.toArray []))) :: ((nat_lit 51), (Obj.mk (Value.type "tuple") Option.none (Data.seq (List.toArray []) 0) (List.toArray []))) :: ((nat_lit 53), (Obj.mk (Value.type "tuple") Option.none (Data.seq (List.toArray [(Value.str (Str.ofString "body") 1759), (Value.str (Str.ofString "maxlinelen") 1760), (Value.str (Str.ofString "eol") 1761), (Value.str (Str.ofString "soft_break") 1762), (Value.str (Str.ofString "maxlinelen1") 1763), (Value.str (Str.ofString "encoded_body") 1764), (Value.str (Str.ofString "append") 1765), (Value.str (Str.ofString "line") 1766), (Value.str (Str.ofString "start") 1767), (Value.str (Str.ofString "laststart") 1768), (Value.str (Str.ofString "stop") 1769), (Value.str (Str.ofString "room") 1770), (Value.str (Str.ofString "q") 1771)]) 0) (List.toArray []))) :: ((nat_lit 54), (Obj.mk (Value.type "tuple") Option.none (Data.seq (List.toArray []) 0) (List.toArray []))) :: ((nat_lit 56), (Obj.mk (Value.type "code") Option.none (Data.fields (List.toArray [(Value.str (Str.ofString "body_encode") 1756), (Value.str (Str.ofString "body_encode") 1757), (Value.str (Str.ofString "/claim/cut.py") 1758), (Value.int 25 0), (Value.int 3 0), (Value.int 0 0), (Value.int 0 0), (Value.int 3 0), (Value.ref 51), (Value.bool Bool.true), (Value.int 181 0), (Value.ref 52), Value.none, (Value.ref 53), (Value.ref 54), (Value.ref 55), (Value.int 1772 0), (Value.int 25 0), (Value.str (Str.ofString "/claim/cut.py") 1773)])) (List.toArray []))) :: ((nat_lit 57), (Obj.mk (Value.type "function") Option.none (Data.func (FuncData.mk (Str.ofString "body_encode") (Str.ofString "body_encode") a19 (.stmts b19) c19 3 [] (Value.ref 50) Value.none Value.none (Value.str (Str.ofString "cpy313.email.quoprimime") 1234) Option.none (Value.ref 56) Value.none 0)) (List.toArray []))) :: ((nat_lit 58), (Obj.mk (Value.type "tuple") Option.none (Data.seq (List.toArray [(Value.str (Str.ofString "\n") 189)]) 0) (List.toArray []))) :: ((nat_lit 59), (Obj.mk (Value.type "tuple") Option.none (Data.seq (List.toArray []) 0) (List.toArray []))) :: ((nat_lit 61), (Obj.mk (Value.type "tuple") Option.none (Data.seq (List.toArray [(Value.str (Str.ofString "encoded") 1778), (Value.str (Str.ofString "eol") 1779), (Value.str (Str.ofString "decoded") 1780), (Value.str (Str.ofString "line") 1781), (Value.str (Str.ofString "i") 1782), (Value.str (Str.ofString "n") 1783), (Value.str (Str.ofString "c") 1784)]) 0) (List.toArray []))) :: ((nat_lit 62), (Obj.mk (Value.type "tuple") Option.none (Data.seq (List.toArray []) 0) (List.toArray []))) :: ((nat_lit 64), (Obj.mk (Value.type "code") Option.none (Data.fields (List.toArray [(Value.str (Str.ofString "decode") 1775), (Value.str (Str.ofString "decode") 1776), (Value.str (Str.ofString "/claim/cut.py") 1777), (Value.int 63 0), (Value.int 2 0), (Value.int 0 0), (Value.int 0 0), (Value.int 3 0), (Value.ref 59), (Value.bool Bool.true), (Value.int 181 0), (Value.ref 60), Value.none, (Value.ref 61), (Value.ref 62), (Value.ref 63), (Value.int 1785 0), (Value.int 63 0), (Value.str (Str.ofString "/claim/cut.py") 1786)])) (List.toArray []))) :: ((nat_lit 65), (Obj.mk (Value.type "function") Option.none (Data.func (FuncData.mk (Str.ofString "decode") (Str.ofString "decode") a20 (.stmts b20) c20 3 [] (Value.ref 58) Value.none Value.none (Value.str (Str.ofString "cpy313.email.quoprimime") 1234) Option.none (Value.ref 64) Value.none 0)) (List.toArray []))) :: ((nat_lit 73), (Obj.mk (Value.type "tuple") Option.none (Data.seq (List.toArray []) 0) (List.toArray []))) :: ((nat_lit 75), (Obj.mk (Value.type "tuple") Option.none (Data.seq (List.toArray [(Value.str (Str.ofString "self") 1805)]) 0) (List.toArray []))) :: ((nat_lit 76), (Obj.mk (Value.type "tuple") Option.none (Data.seq (List.toArray []) 0) (List.toArray []))) :: ((nat_lit 78), (Obj.mk (Value.type "code") Option.none (Data.fields (List.toArray [(Value.str (Str.ofString "__repr__") 1802), (Value.str (Str.ofString "_Unknown.__repr__") 1803), (Value.str (Str.ofString "/claim/cut.py") 1804), (Value.int 96 0), (Value.int 1 0), (Value.int 0 0), (Value.int 0 0), (Value.int 3 0), (Value.ref 73), (Value.bool Bool.true), (Value.int 181 0), (Value.ref 74), Value.none, (Value.ref 75), (Value.ref 76), (Value.ref 77), (Value.int 1806 0), (Value.int 96 0), (Value.str (Str.ofString "/claim/cut.py") 1807)])) (List.toArray []))) :: ((nat_lit 79), (Obj.mk (Value.type "function") Option.none (Data.func (FuncData.mk (Str.ofString "__repr__") (Str.ofString "_Unknown.__repr__") a22 (.stmts b22) c22 3 [] Value.none Value.none Value.none (Value.str (Str.ofString "cpy313.dis") 1788) Option.none (Value.ref 78) Value.none 0)) (List.toArray []))) :: ((nat_lit 80), (Obj.mk (Value.type "tuple") Option.none (Data.seq (List.toArray []) 0) (List.toArray []))) :: ((nat_lit 81), (Obj.mk (Value.type "dict") Option.none (Data.dict (List.toArray [(DictEntry.mk (PyData.keyHash P (Str.ofString "__module__")) (Value.str (Str.ofString "__module__") 1797) (Value.str (Str.ofString "cpy313.dis") 1788)), (DictEntry.mk (PyData.keyHash P (Str.ofString "__firstlineno__")) (Value.str (Str.ofString "__firstlineno__") 1801) (Value.int 94 1800)), (DictEntry.mk (PyData.keyHash P (Str.ofString "__repr__")) (Value.str (Str.ofString "__repr__") 1808) (Value.ref 79)), (DictEntry.mk (PyData.keyHash P (Str.ofString "__static_attributes__")) (Value.str (Str.ofString "__static_attributes__") 1809) (Value.ref 80)), (DictEntry.mk (PyData.keyHash P (Str.ofString "__dict__")) (Value.str (Str.ofString "__dict__") 1811) (Value.ref 83)), (DictEntry.mk (PyData.keyHash P (Str.ofString "__weakref__")) (Value.str (Str.ofString "__weakref__") 1813) (Value.ref 84)), (DictEntry.mk (PyData.keyHash P (Str.ofString "__doc__")) (Value.str (Str.ofString "__doc__") 1814) Value.none)]) 4) (List.toArray []))) :: ((nat_lit 82), (Obj.mk (Value.type "type") Option.none (Data.cls (ClassData.mk (Str.ofString "_Unknown") [(Value.type "object")] [(Value.ref 82), (Value.type "object")] 81 (Str.ofString "_Unknown") Bool.true [] [] Bool.false Option.none Bool.false)) (List.toArray [Option.none, Option.none, (Option.some (Value.str (Str.ofString "_Unknown") 1790)), (Option.some (Value.str (Str.ofString "_Unknown") 1798)), (Option.some (Value.builtin "object.__new__")), (Option.some (Value.bool Bool.true))]))) :: ((nat_lit 83), (Obj.mk (Value.type "getset_descriptor") Option.none (Data.fields (List.toArray [(Value.str (Str.ofString "__dict__") 1810), (Value.ref 82), (Value.builtin "function.__dict__"), (Value.builtin "function.__dict__#set")])) (List.toArray []))) :: ((nat_lit 84), (Obj.mk (Value.type "getset_descriptor") Option.none (Data.fields (List.toArray [(Value.str (Str.ofString "__weakref__") 1812), (Value.ref 82), (Value.builtin "ExceptionGroup.__weakref__"), Value.none])) (List.toArray []))) :: ((nat_lit 87), (Obj.mk (Value.type "dict") Option.none (Data.dict (List.toArray []) 0) (List.toArray []))) :: ((nat_lit 88), (Obj.mk (Value.ref 82) (Option.some 87) Data.plain (List.toArray []))) :: ((nat_lit 89), (Obj.mk (Value.type "tuple") Option.none (Data.seq (List.toArray []) 0) (List.toArray []))) :: ((nat_lit 91), (Obj.mk (Value.type "tuple") Option.none (Data.seq (List.toArray [(Value.str (Str.ofString "name_index") 1821), (Value.str (Str.ofString "get_name") 1822), (Value.str (Str.ofString "extrainfo") 1823), (Value.str (Str.ofString "argval") 1824)]) 0) (List.toArray []))) :: ((nat_lit 92), (Obj.mk (Value.type "tuple") Option.none (Data.seq (List.toArray []) 0) (List.toArray []))) :: ((nat_lit 94), (Obj.mk (Value.type "code") Option.none (Data.fields (List.toArray [(Value.str (Str.ofString "_get_name_info") 1818), (Value.str (Str.ofString "_get_name_info") 1819), (Value.str (Str.ofString "/claim/cut.py") 1820), (Value.int 99 0), (Value.int 2 0), (Value.int 0 0), (Value.int 0 0), (Value.int 11 0), (Value.ref 89), (Value.bool Bool.true), (Value.int 181 0), (Value.ref 90), Value.none, (Value.ref 91), (Value.ref 92), (Value.ref 93), (Value.int 1825 0), (Value.int 99 0), (Value.str (Str.ofString "/claim/cut.py") 1826)])) (List.toArray []))) :: ((nat_lit 95), (Obj.mk (Value.type "function") Option.none (Data.func (FuncData.mk (Str.ofString "_get_name_info") (Str.ofString "_get_name_info") a24 (.stmts b24) c24 3 [] Value.none Value.none Value.none (Value.str (Str.ofString "cpy313.dis") 1788) Option.none (Value.ref 94) Value.none 0)) (List.toArray []))) :: ((nat_lit 96), (Obj.mk (Value.type "tuple") Option.none (Data.seq (List.toArray []) 0) (List.toArray []))) :: ((nat_lit 98), (Obj.mk (Value.type "tuple") Option.none (Data.seq (List.toArray [(Value.str (Str.ofString "linestarts") 1833), (Value.str (Str.ofString "maxlineno") 1834), (Value.str (Str.ofString "lineno_width") 1835)]) 0) (List.toArray []))) :: ((nat_lit 99), (Obj.mk (Value.type "tuple") Option.none (Data.seq (List.toArray []) 0) (List.toArray []))) :: ((nat_lit 101), (Obj.mk (Value.type "code") Option.none (Data.fields (List.toArray [(Value.str (Str.ofString "_get_lineno_width") 1830), (Value.str (Str.ofString "_get_lineno_width") 1831), (Value.str (Str.ofString "/claim/cut.py") 1832), (Value.int 106 0), (Value.int 1 0), (Value.int 0 0), (Value.int 0 0), (Value.int 3 0), (Value.ref 96), (Value.bool Bool.true), (Value.int 181 0), (Value.ref 97), Value.none, (Value.ref 98), (Value.ref 99), (Value.ref 100), (Value.int 1836 0), (Value.int 106 0), (Value.str (Str.ofString "/claim/cut.py") 1837)])) (List.toArray []))) :: ((nat_lit 102), (Obj.mk (Value.type "function") Option.none (Data.func (FuncData.mk (Str.ofString "_get_lineno_width") (Str.ofString "_get_lineno_width") a26 (.stmts b26) c26 3 [] Value.none Value.none Value.none (Value.str (Str.ofString "cpy313.dis") 1788) Option.none (Value.ref 101) Value.none 0)) (List.toArray []))) :: ((nat_lit 103), (Obj.mk (Value.type "tuple") Option.none (Data.seq (List.toArray []) 0) (List.toArray []))) :: ((nat_lit 106), (Obj.mk (Value.type "code") Option.none (Data.fields (List.toArray [(Value.str (Str.ofString "_law_lines") 1841), (Value.str (Str.ofString "_law_lines") 1842), (Value.str (Str.ofString "/claim/cut.py") 1843), (Value.int 117 0), (Value.int 1 0), (Value.int 0 0), (Value.int 0 0), (Value.int 3 0), (Value.ref 103), (Value.bool Bool.true), (Value.int 181 0), (Value.ref 104), Value.none, Value.none, Value.none, (Value.ref 105), (Value.int 1844 0), (Value.int 117 0), (Value.str (Str.ofString "/claim/cut.py") 1845)])) (List.toArray []))) :: ((nat_lit 107), (Obj.mk (Value.type "function") Option.none (Data.func (FuncData.mk (Str.ofString "_law_lines") (Str.ofString "_law_lines") a28 (.stmts b28) c28 3 [] Value.none Value.none Value.none (Value.str (Str.ofString "law_ik0034_01") 1839) Option.none (Value.ref 106) Value.none 0)) (List.toArray []))) :: ((nat_lit 108), (Obj.mk (Value.type "tuple") Option.none (Data.seq (List.toArray []) 0) (List.toArray []))) :: ((nat_lit 110), (Obj.mk (Value.type "tuple") Option.none (Data.seq (List.toArray [(Value.str (Str.ofString "label") 1850), (Value.str (Str.ofString "text") 1851), (Value.str (Str.ofString "width") 1852)]) 0) (List.toArray []))) :: ((nat_lit 111), (Obj.mk (Value.type "tuple") Option.none (Data.seq (List.toArray []) 0) (List.toArray []))) :: ((nat_lit 113), (Obj.mk (Value.type "code") Option.none (Data.fields (List.toArray [(Value.str (Str.ofString "_law_row") 1847), (Value.str (Str.ofString "_law_row") 1848), (Value.str (Str.ofString "/claim/cut.py") 1849), (Value.int 127 0), (Value.int 3 0), (Value.int 0 0), (Value.int 0 0), (Value.int 3 0), (Value.ref 108), (Value.bool Bool.true), (Value.int 181 0), (Value.ref 109), Value.none, (Value.ref 110), (Value.ref 111), (Value.ref 112), (Value.int 1853 0), (Value.int 127 0), (Value.str (Str.ofString "/claim/cut.py") 1854)])) (List.toArray []))) :: ((nat_lit 114), (Obj.mk (Value.type "function") Option.none (Data.func (FuncData.mk (Str.ofString "_law_row") (Str.ofString "_law_row") a29 (.stmts b29) c29 3 [] Value.none Value.none Value.none (Value.str (Str.ofString "law_ik0034_01") 1839) Option.none (Value.ref 113) Value.none 0)) (List.toArray []))) :: ((nat_lit 115), (Obj.mk (Value.type "tuple") Option.none (Data.seq (List.toArray []) 0) (List.toArray []))) :: ((nat_lit 118), (Obj.mk (Value.type "code") Option.none (Data.fields (List.toArray [(Value.str (Str.ofString "_law_signs") 1856), (Value.str (Str.ofString "_law_signs") 1857), (Value.str (Str.ofString "/claim/cut.py") 1858), (Value.int 131 0), (Value.int 1 0), (Value.int 0 0), (Value.int 0 0), (Value.int 3 0), (Value.ref 115), (Value.bool Bool.true), (Value.int 181 0), (Value.ref 116), Value.none, Value.none, Value.none, (Value.ref 117), (Value.int 1859 0), (Value.int 131 0), (Value.str (Str.ofString "/claim/cut.py") 1860)])) (List.toArray []))) :: ((nat_lit 119), (Obj.mk (Value.type "function") Option.none (Data.func (FuncData.mk (Str.ofString "_law_signs") (Str.ofString "_law_signs") a30 (.stmts b30) c30 3 [] Value.none Value.none Value.none (Value.str (Str.ofString "law_ik0034_01") 1839) Option.none (Value.ref 118) Value.none 0)) (List.toArray []))) :: ((nat_lit 120), (Obj.mk (Value.type "tuple") Option.none (Data.seq (List.toArray []) 0) (List.toArray []))) :: ((nat_lit 122), (Obj.mk (Value.type "tuple") Option.none (Data.seq (List.toArray [(Value.str (Str.ofString "row") 1865), (Value.str (Str.ofString "need") 1866), (Value.str (Str.ofString "most") 1867), (Value.str (Str.ofString "behind") 1868)]) 0) (List.toArray []))) :: ((nat_lit 123), (Obj.mk (Value.type "tuple") Option.none (Data.seq (List.toArray []) 0) (List.toArray []))) :: ((nat_lit 125), (Obj.mk (Value.type "code") Option.none (Data.fields (List.toArray [(Value.str (Str.ofString "_law_parts") 1862), (Value.str (Str.ofString "_law_parts") 1863), (Value.str (Str.ofString "/claim/cut.py") 1864), (Value.int 133 0), (Value.int 3 0), (Value.int 0 0), (Value.int 0 0), (Value.int 3 0), (Value.ref 120), (Value.bool Bool.true), (Value.int 181 0), (Value.ref 121), Value.none, (Value.ref 122), (Value.ref 123), (Value.ref 124), (Value.int 1869 0), (Value.int 133 0), (Value.str (Str.ofString "/claim/cut.py") 1870)])) (List.toArray []))) :: ((nat_lit 126), (Obj.mk (Value.type "function") Option.none (Data.func (FuncData.mk (Str.ofString "_law_parts") (Str.ofString "_law_parts") a31 (.stmts b31) c31 3 [] Value.none Value.none Value.none (Value.str (Str.ofString "law_ik0034_01") 1839) Option.none (Value.ref 125) Value.none 0)) (List.toArray []))) :: ((nat_lit 127), (Obj.mk (Value.type "tuple") Option.none (Data.seq (List.toArray []) 0) (List.toArray []))) :: ((nat_lit 130), (Obj.mk (Value.type "code") Option.none (Data.fields (List.toArray [(Value.str (Str.ofString "_law_letter") 1872), (Value.str (Str.ofString "_law_letter") 1873), (Value.str (Str.ofString "/claim/cut.py") 1874), (Value.int 142 0), (Value.int 3 0), (Value.int 0 0), (Value.int 0 0), (Value.int 3 0), (Value.ref 127), (Value.bool Bool.true), (Value.int 181 0), (Value.ref 128), Value.none, Value.none, Value.none, (Value.ref 129), (Value.int 1875 0), (Value.int 142 0), (Value.str (Str.ofString "/claim/cut.py") 1876)])) (List.toArray []))) :: ((nat_lit 131), (Obj.mk (Value.type "function") Option.none (Data.func (FuncData.mk (Str.ofString "_law_letter") (Str.ofString "_law_letter") a32 (.stmts b32) c32 3 [] Value.none Value.none Value.none (Value.str (Str.ofString "law_ik0034_01") 1839) Option.none (Value.ref 130) Value.none 0)) (List.toArray []))) :: ((nat_lit 132), (Obj.mk (Value.type "tuple") Option.none (Data.seq (List.toArray []) 0) (List.toArray []))) :: ((nat_lit 135), (Obj.mk (Value.type "code") Option.none (Data.fields (List.toArray [(Value.str (Str.ofString "law") 1878), (Value.str (Str.ofString "law") 1879), (Value.str (Str.ofString "/claim/cut.py") 1880), (Value.int 150 0), (Value.int 1 0), (Value.int 0 0), (Value.int 0 0), (Value.int 3 0), (Value.ref 132), (Value.bool Bool.true), (Value.int 181 0), (Value.ref 133), Value.none, Value.none, Value.none, (Value.ref 134), (Value.int 1881 0), (Value.int 150 0), (Value.str (Str.ofString "/claim/cut.py") 1882)])) (List.toArray []))) :: ((nat_lit 136), (Obj.mk (Value.type "function") Option.none (Data.func (FuncData.mk (Str.ofString "law") (Str.ofString "law") a33 (.stmts b33) c33 3 [] Value.none Value.none Value.none (Value.str (Str.ofString "law_ik0034_01") 1839) Option.none (Value.ref 135) Value.none 0)) (List.toArray []))) :: [])
noncomputable def PQ : Program := (PySem.W.Fast.tw2368527892694137696 PySem.W.Fast.tw16398599223371307846).toRowW.1
noncomputable def fnA0 : List Stmt → Arguments
  | .FunctionDef _ a _ _ _ _ _ _ _ _ :: _ => a
  | _ => default
noncomputable def fnB0 : List Stmt → List Stmt
  | .FunctionDef _ _ b _ _ _ _ _ _ _ :: _ => b
  | _ => []
noncomputable def fnS0 : List Stmt → Scope
  | .FunctionDef _ _ _ _ _ _ c _ _ _ :: _ => c
  | _ => default
noncomputable def cl0 : List Stmt → List Stmt
  | .ClassDef _ _ _ b _ _ _ _ _ _ _ :: _ => b
  | l => l
noncomputable def fnA (k : Nat) : Arguments := fnA0 (cl0 (PQ.main.body.drop k))
noncomputable def fnB (k : Nat) : List Stmt := fnB0 (cl0 (PQ.main.body.drop k))
noncomputable def fnS (k : Nat) : Scope := fnS0 (cl0 (PQ.main.body.drop k))
noncomputable def o_42 (P : Params) : Obj := (Obj.mk (Value.type PySem.W.SL.s14018661285674007319x4) Option.none (Data.dict (List.toArray ((DictEntry.mk (PyData.keyHash P ⟨⟨[95,95,110,97,109,101,95,95]⟩⟩) (Value.str ⟨⟨[95,95,110,97,109,101,95,95]⟩⟩ 1) (Value.str ⟨⟨[98,117,105,108,116,105,110,115]⟩⟩ 160)) :: (DictEntry.mk (PyData.keyHash P ⟨⟨[95,95,100,111,99,95,95]⟩⟩) (Value.str ⟨⟨[95,95,100,111,99,95,95]⟩⟩ 2) (Value.builtin "builtins.__doc__:str#opaque")) :: (DictEntry.mk (PyData.keyHash P ⟨⟨[95,95,112,97,99,107,97,103,101,95,95]⟩⟩) (Value.str ⟨⟨[95,95,112,97,99,107,97,103,101,95,95]⟩⟩ 3) (Value.builtin "builtins.__package__:str#opaque")) :: (DictEntry.mk (PyData.keyHash P ⟨⟨[95,95,108,111,97,100,101,114,95,95]⟩⟩) (Value.str ⟨⟨[95,95,108,111,97,100,101,114,95,95]⟩⟩ 4) (Value.builtin "builtins.__loader__:shared#opaque")) :: (DictEntry.mk (PyData.keyHash P ⟨⟨[95,95,115,112,101,99,95,95]⟩⟩) (Value.str ⟨⟨[95,95,115,112,101,99,95,95]⟩⟩ 5) (Value.builtin PySem.W.SL.s11665532747177232413x24)) :: (DictEntry.mk (PyData.keyHash P ⟨⟨[95,95,98,117,105,108,100,95,99,108,97,115,115,95,95]⟩⟩) (Value.str ⟨⟨[95,95,98,117,105,108,100,95,99,108,97,115,115,95,95]⟩⟩ 6) (Value.builtin PySem.W.SL.s15183661809925369436x15)) :: (DictEntry.mk (PyData.keyHash P ⟨⟨[95,95,105,109,112,111,114,116,95,95]⟩⟩) (Value.str ⟨⟨[95,95,105,109,112,111,114,116,95,95]⟩⟩ 7) (Value.builtin PySem.W.SL.s13915890719876406383x10)) :: (DictEntry.mk (PyData.keyHash P ⟨⟨[97,98,115]⟩⟩) (Value.str ⟨⟨[97,98,115]⟩⟩ 8) (Value.builtin PySem.W.SL.s13459172003223722735x3)) :: (DictEntry.mk (PyData.keyHash P ⟨⟨[97,108,108]⟩⟩) (Value.str ⟨⟨[97,108,108]⟩⟩ 9) (Value.builtin PySem.W.SL.s10557405761357834076x3)) :: (DictEntry.mk (PyData.keyHash P ⟨⟨[97,110,121]⟩⟩) (Value.str ⟨⟨[97,110,121]⟩⟩ 10) (Value.builtin PySem.W.SL.s4233737765568776869x3)) :: (DictEntry.mk (PyData.keyHash P ⟨⟨[97,115,99,105,105]⟩⟩) (Value.str ⟨⟨[97,115,99,105,105]⟩⟩ 11) (Value.builtin PySem.W.SL.s2508922471967985374x5)) :: (DictEntry.mk (PyData.keyHash P ⟨⟨[98,105,110]⟩⟩) (Value.str ⟨⟨[98,105,110]⟩⟩ 12) (Value.builtin PySem.W.SL.s15574269061696679450x3)) :: (DictEntry.mk (PyData.keyHash P ⟨⟨[98,114,101,97,107,112,111,105,110,116]⟩⟩) (Value.str ⟨⟨[98,114,101,97,107,112,111,105,110,116]⟩⟩ 13) (Value.builtin PySem.W.SL.s6016482663378992977x10)) :: (DictEntry.mk (PyData.keyHash P ⟨⟨[99,97,108,108,97,98,108,101]⟩⟩) (Value.str ⟨⟨[99,97,108,108,97,98,108,101]⟩⟩ 14) (Value.builtin PySem.W.SL.s5596568736180474577x8)) :: (DictEntry.mk (PyData.keyHash P ⟨⟨[99,104,114]⟩⟩) (Value.str ⟨⟨[99,104,114]⟩⟩ 15) (Value.builtin PySem.W.SL.s2839554839881490554x3)) :: (DictEntry.mk (PyData.keyHash P ⟨⟨[99,111,109,112,105,108,101]⟩⟩) (Value.str ⟨⟨[99,111,109,112,105,108,101]⟩⟩ 16) (Value.builtin PySem.W.SL.s725004073602090463x7)) :: (DictEntry.mk (PyData.keyHash P ⟨⟨[100,101,108,97,116,116,114]⟩⟩) (Value.str ⟨⟨[100,101,108,97,116,116,114]⟩⟩ 17) (Value.builtin PySem.W.SL.s9436932552931045734x7)) :: (DictEntry.mk (PyData.keyHash P ⟨⟨[100,105,114]⟩⟩) (Value.str ⟨⟨[100,105,114]⟩⟩ 18) (Value.builtin PySem.W.SL.s2754603736356183583x3)) :: (DictEntry.mk (PyData.keyHash P ⟨⟨[100,105,118,109,111,100]⟩⟩) (Value.str ⟨⟨[100,105,118,109,111,100]⟩⟩ 19) (Value.builtin PySem.W.SL.s15185746759980889043x6)) :: (DictEntry.mk (PyData.keyHash P ⟨⟨[101,118,97,108]⟩⟩) (Value.str ⟨⟨[101,118,97,108]⟩⟩ 20) (Value.builtin PySem.W.SL.s8192189862530294059x4)) :: (DictEntry.mk (PyData.keyHash P ⟨⟨[101,120,101,99]⟩⟩) (Value.str ⟨⟨[101,120,101,99]⟩⟩ 21) (Value.builtin PySem.W.SL.s7038307821325472102x4)) :: (DictEntry.mk (PyData.keyHash P ⟨⟨[102,111,114,109,97,116]⟩⟩) (Value.str ⟨⟨[102,111,114,109,97,116]⟩⟩ 22) (Value.builtin PySem.W.SL.s5662562618415449548x6)) :: (DictEntry.mk (PyData.keyHash P ⟨⟨[103,101,116,97,116,116,114]⟩⟩) (Value.str ⟨⟨[103,101,116,97,116,116,114]⟩⟩ 23) (Value.builtin PySem.W.SL.s15281542589158584767x7)) :: (DictEntry.mk (PyData.keyHash P ⟨⟨[103,108,111,98,97,108,115]⟩⟩) (Value.str ⟨⟨[103,108,111,98,97,108,115]⟩⟩ 24) (Value.builtin PySem.W.SL.s17651547275483570877x7)) :: (DictEntry.mk (PyData.keyHash P ⟨⟨[104,97,115,97,116,116,114]⟩⟩) (Value.str ⟨⟨[104,97,115,97,116,116,114]⟩⟩ 25) (Value.builtin PySem.W.SL.s4036449017235975746x7)) :: (DictEntry.mk (PyData.keyHash P ⟨⟨[104,97,115,104]⟩⟩) (Value.str ⟨⟨[104,97,115,104]⟩⟩ 26) (Value.builtin PySem.W.SL.s8879979712987360175x4)) :: (DictEntry.mk (PyData.keyHash P ⟨⟨[104,101,120]⟩⟩) (Value.str ⟨⟨[104,101,120]⟩⟩ 27) (Value.builtin PySem.W.SL.s1801250619170735830x3)) :: (DictEntry.mk (PyData.keyHash P ⟨⟨[105,100]⟩⟩) (Value.str ⟨⟨[105,100]⟩⟩ 28) (Value.builtin PySem.W.SL.s17659931425627118568x2)) :: (DictEntry.mk (PyData.keyHash P ⟨⟨[105,110,112,117,116]⟩⟩) (Value.str ⟨⟨[105,110,112,117,116]⟩⟩ 29) (Value.builtin PySem.W.SL.s6063217899685152688x5)) :: (DictEntry.mk (PyData.keyHash P ⟨⟨[105,115,105,110,115,116,97,110,99,101]⟩⟩) (Value.str ⟨⟨[105,115,105,110,115,116,97,110,99,101]⟩⟩ 30) (Value.builtin PySem.W.SL.s8008927332132565319x10)) :: (DictEntry.mk (PyData.keyHash P ⟨⟨[105,115,115,117,98,99,108,97,115,115]⟩⟩) (Value.str ⟨⟨[105,115,115,117,98,99,108,97,115,115]⟩⟩ 31) (Value.builtin PySem.W.SL.s3544116645089599534x10)) :: (DictEntry.mk (PyData.keyHash P ⟨⟨[105,116,101,114]⟩⟩) (Value.str ⟨⟨[105,116,101,114]⟩⟩ 32) (Value.builtin PySem.W.SL.s13761710972054866084x4)) :: (DictEntry.mk (PyData.keyHash P ⟨⟨[97,105,116,101,114]⟩⟩) (Value.str ⟨⟨[97,105,116,101,114]⟩⟩ 33) (Value.builtin PySem.W.SL.s12896375587409280029x5)) :: (DictEntry.mk (PyData.keyHash P ⟨⟨[108,101,110]⟩⟩) (Value.str ⟨⟨[108,101,110]⟩⟩ 34) (Value.builtin PySem.W.SL.s13014049009108672802x3)) :: (DictEntry.mk (PyData.keyHash P ⟨⟨[108,111,99,97,108,115]⟩⟩) (Value.str ⟨⟨[108,111,99,97,108,115]⟩⟩ 35) (Value.builtin PySem.W.SL.s13935586738268321596x6)) :: (DictEntry.mk (PyData.keyHash P ⟨⟨[109,97,120]⟩⟩) (Value.str ⟨⟨[109,97,120]⟩⟩ 36) (Value.builtin PySem.W.SL.s8200498257699607233x3)) :: (DictEntry.mk (PyData.keyHash P ⟨⟨[109,105,110]⟩⟩) (Value.str ⟨⟨[109,105,110]⟩⟩ 37) (Value.builtin PySem.W.SL.s14114244577727609259x3)) :: (DictEntry.mk (PyData.keyHash P ⟨⟨[110,101,120,116]⟩⟩) (Value.str ⟨⟨[110,101,120,116]⟩⟩ 38) (Value.builtin PySem.W.SL.s1499430450269397089x4)) :: (DictEntry.mk (PyData.keyHash P ⟨⟨[97,110,101,120,116]⟩⟩) (Value.str ⟨⟨[97,110,101,120,116]⟩⟩ 39) (Value.builtin PySem.W.SL.s8755793994789770505x5)) :: (DictEntry.mk (PyData.keyHash P ⟨⟨[111,99,116]⟩⟩) (Value.str ⟨⟨[111,99,116]⟩⟩ 40) (Value.builtin PySem.W.SL.s15725212667919936108x3)) :: (DictEntry.mk (PyData.keyHash P ⟨⟨[111,114,100]⟩⟩) (Value.str ⟨⟨[111,114,100]⟩⟩ 41) (Value.builtin PySem.W.SL.s15791221867095933363x3)) :: (DictEntry.mk (PyData.keyHash P ⟨⟨[112,111,119]⟩⟩) (Value.str ⟨⟨[112,111,119]⟩⟩ 42) (Value.builtin PySem.W.SL.s81309575031448614x3)) :: (DictEntry.mk (PyData.keyHash P ⟨⟨[112,114,105,110,116]⟩⟩) (Value.str ⟨⟨[112,114,105,110,116]⟩⟩ 43) (Value.builtin PySem.W.SL.s8069831620301644142x5)) :: (DictEntry.mk (PyData.keyHash P ⟨⟨[114,101,112,114]⟩⟩) (Value.str ⟨⟨[114,101,112,114]⟩⟩ 44) (Value.builtin PySem.W.SL.s10061844253413749634x4)) :: (DictEntry.mk (PyData.keyHash P ⟨⟨[114,111,117,110,100]⟩⟩) (Value.str ⟨⟨[114,111,117,110,100]⟩⟩ 45) (Value.builtin PySem.W.SL.s9496514870978017513x5)) :: (DictEntry.mk (PyData.keyHash P ⟨⟨[115,101,116,97,116,116,114]⟩⟩) (Value.str ⟨⟨[115,101,116,97,116,116,114]⟩⟩ 46) (Value.builtin PySem.W.SL.s8899691144933366716x7)) :: (DictEntry.mk (PyData.keyHash P ⟨⟨[115,111,114,116,101,100]⟩⟩) (Value.str ⟨⟨[115,111,114,116,101,100]⟩⟩ 47) (Value.builtin PySem.W.SL.s15201008993051130160x6)) :: (DictEntry.mk (PyData.keyHash P ⟨⟨[115,117,109]⟩⟩) (Value.str ⟨⟨[115,117,109]⟩⟩ 48) (Value.builtin PySem.W.SL.s741896355592496720x3)) :: (DictEntry.mk (PyData.keyHash P ⟨⟨[118,97,114,115]⟩⟩) (Value.str ⟨⟨[118,97,114,115]⟩⟩ 49) (Value.builtin PySem.W.SL.s17925004256654032244x4)) :: (DictEntry.mk (PyData.keyHash P ⟨⟨[78,111,110,101]⟩⟩) (Value.str ⟨⟨[78,111,110,101]⟩⟩ 50) Value.none) :: (DictEntry.mk (PyData.keyHash P ⟨⟨[69,108,108,105,112,115,105,115]⟩⟩) (Value.str ⟨⟨[69,108,108,105,112,115,105,115]⟩⟩ 51) Value.ellipsis) :: (DictEntry.mk (PyData.keyHash P ⟨⟨[78,111,116,73,109,112,108,101,109,101,110,116,101,100]⟩⟩) (Value.str ⟨⟨[78,111,116,73,109,112,108,101,109,101,110,116,101,100]⟩⟩ 52) Value.notImplemented) :: (DictEntry.mk (PyData.keyHash P ⟨⟨[70,97,108,115,101]⟩⟩) (Value.str ⟨⟨[70,97,108,115,101]⟩⟩ 53) (Value.bool Bool.false)) :: (DictEntry.mk (PyData.keyHash P ⟨⟨[84,114,117,101]⟩⟩) (Value.str ⟨⟨[84,114,117,101]⟩⟩ 54) (Value.bool Bool.true)) :: (DictEntry.mk (PyData.keyHash P ⟨⟨[98,111,111,108]⟩⟩) (Value.str ⟨⟨[98,111,111,108]⟩⟩ 55) (Value.type PySem.W.SL.s11695548795398191787x4)) :: (DictEntry.mk (PyData.keyHash P ⟨⟨[109,101,109,111,114,121,118,105,101,119]⟩⟩) (Value.str ⟨⟨[109,101,109,111,114,121,118,105,101,119]⟩⟩ 56) (Value.type PySem.W.SL.s4156966113859768872x10)) :: (DictEntry.mk (PyData.keyHash P ⟨⟨[98,121,116,101,97,114,114,97,121]⟩⟩) (Value.str ⟨⟨[98,121,116,101,97,114,114,97,121]⟩⟩ 57) (Value.type PySem.W.SL.s9501651726347032510x9)) :: (DictEntry.mk (PyData.keyHash P ⟨⟨[98,121,116,101,115]⟩⟩) (Value.str ⟨⟨[98,121,116,101,115]⟩⟩ 58) (Value.type PySem.W.SL.s15722918466584999320x5)) :: (DictEntry.mk (PyData.keyHash P ⟨⟨[99,108,97,115,115,109,101,116,104,111,100]⟩⟩) (Value.str ⟨⟨[99,108,97,115,115,109,101,116,104,111,100]⟩⟩ 59) (Value.type PySem.W.SL.s591115383303110208x11)) :: (DictEntry.mk (PyData.keyHash P ⟨⟨[99,111,109,112,108,101,120]⟩⟩) (Value.str ⟨⟨[99,111,109,112,108,101,120]⟩⟩ 60) (Value.type PySem.W.SL.s15721156781594690315x7)) :: (DictEntry.mk (PyData.keyHash P ⟨⟨[100,105,99,116]⟩⟩) (Value.str ⟨⟨[100,105,99,116]⟩⟩ 61) (Value.type PySem.W.SL.s14018661285674007319x4)) :: (DictEntry.mk (PyData.keyHash P ⟨⟨[101,110,117,109,101,114,97,116,101]⟩⟩) (Value.str ⟨⟨[101,110,117,109,101,114,97,116,101]⟩⟩ 62) (Value.type PySem.W.SL.s14340494229221121180x9)) :: (DictEntry.mk (PyData.keyHash P ⟨⟨[102,105,108,116,101,114]⟩⟩) (Value.str ⟨⟨[102,105,108,116,101,114]⟩⟩ 63) (Value.type PySem.W.SL.s13429844117177748173x6)) :: (DictEntry.mk (PyData.keyHash P ⟨⟨[102,108,111,97,116]⟩⟩) (Value.str ⟨⟨[102,108,111,97,116]⟩⟩ 64) (Value.type PySem.W.SL.s16463266125957815391x5)) :: (DictEntry.mk (PyData.keyHash P ⟨⟨[102,114,111,122,101,110,115,101,116]⟩⟩) (Value.str ⟨⟨[102,114,111,122,101,110,115,101,116]⟩⟩ 65) (Value.type PySem.W.SL.s4922535414793169389x9)) :: (DictEntry.mk (PyData.keyHash P ⟨⟨[112,114,111,112,101,114,116,121]⟩⟩) (Value.str ⟨⟨[112,114,111,112,101,114,116,121]⟩⟩ 66) (Value.type PySem.W.SL.s8101838861749082086x8)) :: (DictEntry.mk (PyData.keyHash P ⟨⟨[105,110,116]⟩⟩) (Value.str ⟨⟨[105,110,116]⟩⟩ 67) (Value.type PySem.W.SL.s7066276694103001551x3)) :: (DictEntry.mk (PyData.keyHash P ⟨⟨[108,105,115,116]⟩⟩) (Value.str ⟨⟨[108,105,115,116]⟩⟩ 68) (Value.type PySem.W.SL.s9222952809800978799x4)) :: (DictEntry.mk (PyData.keyHash P ⟨⟨[109,97,112]⟩⟩) (Value.str ⟨⟨[109,97,112]⟩⟩ 69) (Value.type PySem.W.SL.s462964344163437139x3)) :: (DictEntry.mk (PyData.keyHash P ⟨⟨[111,98,106,101,99,116]⟩⟩) (Value.str ⟨⟨[111,98,106,101,99,116]⟩⟩ 70) (Value.type PySem.W.SL.s2742458400755230247x6)) :: (DictEntry.mk (PyData.keyHash P ⟨⟨[114,97,110,103,101]⟩⟩) (Value.str ⟨⟨[114,97,110,103,101]⟩⟩ 71) (Value.type PySem.W.SL.s1438033511350832697x5)) :: (DictEntry.mk (PyData.keyHash P ⟨⟨[114,101,118,101,114,115,101,100]⟩⟩) (Value.str ⟨⟨[114,101,118,101,114,115,101,100]⟩⟩ 72) (Value.type PySem.W.SL.s14365286008749172514x8)) :: (DictEntry.mk (PyData.keyHash P ⟨⟨[115,101,116]⟩⟩) (Value.str ⟨⟨[115,101,116]⟩⟩ 73) (Value.type PySem.W.SL.s3642769012341782148x3)) :: (DictEntry.mk (PyData.keyHash P ⟨⟨[115,108,105,99,101]⟩⟩) (Value.str ⟨⟨[115,108,105,99,101]⟩⟩ 74) (Value.type PySem.W.SL.s4674234679698826739x5)) :: (DictEntry.mk (PyData.keyHash P ⟨⟨[115,116,97,116,105,99,109,101,116,104,111,100]⟩⟩) (Value.str ⟨⟨[115,116,97,116,105,99,109,101,116,104,111,100]⟩⟩ 75) (Value.type PySem.W.SL.s16656946322747308186x12)) :: (DictEntry.mk (PyData.keyHash P ⟨⟨[115,116,114]⟩⟩) (Value.str ⟨⟨[115,116,114]⟩⟩ 76) (Value.type PySem.W.SL.s10796804682411823810x3)) :: (DictEntry.mk (PyData.keyHash P ⟨⟨[115,117,112,101,114]⟩⟩) (Value.str ⟨⟨[115,117,112,101,114]⟩⟩ 77) (Value.type PySem.W.SL.s4290257624100764138x5)) :: (DictEntry.mk (PyData.keyHash P ⟨⟨[116,117,112,108,101]⟩⟩) (Value.str ⟨⟨[116,117,112,108,101]⟩⟩ 78) (Value.type PySem.W.SL.s2766695959194262286x5)) :: (DictEntry.mk (PyData.keyHash P ⟨⟨[116,121,112,101]⟩⟩) (Value.str ⟨⟨[116,121,112,101]⟩⟩ 79) (Value.type PySem.W.SL.s17162191345867700912x4)) :: (DictEntry.mk (PyData.keyHash P ⟨⟨[122,105,112]⟩⟩) (Value.str ⟨⟨[122,105,112]⟩⟩ 80) (Value.type PySem.W.SL.s14339709457334898076x3)) :: (DictEntry.mk (PyData.keyHash P ⟨⟨[95,95,100,101,98,117,103,95,95]⟩⟩) (Value.str ⟨⟨[95,95,100,101,98,117,103,95,95]⟩⟩ 81) (Value.bool Bool.true)) :: (DictEntry.mk (PyData.keyHash P ⟨⟨[66,97,115,101,69,120,99,101,112,116,105,111,110]⟩⟩) (Value.str ⟨⟨[66,97,115,101,69,120,99,101,112,116,105,111,110]⟩⟩ 82) (Value.type PySem.W.SL.s4278001404047624695x13)) :: (DictEntry.mk (PyData.keyHash P ⟨⟨[66,97,115,101,69,120,99,101,112,116,105,111,110,71,114,111,117,112]⟩⟩) (Value.str ⟨⟨[66,97,115,101,69,120,99,101,112,116,105,111,110,71,114,111,117,112]⟩⟩ 83) (Value.type PySem.W.SL.s6585700554429387442x18)) :: (DictEntry.mk (PyData.keyHash P ⟨⟨[69,120,99,101,112,116,105,111,110]⟩⟩) (Value.str ⟨⟨[69,120,99,101,112,116,105,111,110]⟩⟩ 84) (Value.type PySem.W.SL.s5946037652744460706x9)) :: (DictEntry.mk (PyData.keyHash P ⟨⟨[71,101,110,101,114,97,116,111,114,69,120,105,116]⟩⟩) (Value.str ⟨⟨[71,101,110,101,114,97,116,111,114,69,120,105,116]⟩⟩ 85) (Value.type PySem.W.SL.s7410770068591931388x13)) :: (DictEntry.mk (PyData.keyHash P ⟨⟨[75,101,121,98,111,97,114,100,73,110,116,101,114,114,117,112,116]⟩⟩) (Value.str ⟨⟨[75,101,121,98,111,97,114,100,73,110,116,101,114,114,117,112,116]⟩⟩ 86) (Value.type PySem.W.SL.s11817881795495490833x17)) :: (DictEntry.mk (PyData.keyHash P ⟨⟨[83,121,115,116,101,109,69,120,105,116]⟩⟩) (Value.str ⟨⟨[83,121,115,116,101,109,69,120,105,116]⟩⟩ 87) (Value.type PySem.W.SL.s15679963881808890155x10)) :: (DictEntry.mk (PyData.keyHash P ⟨⟨[65,114,105,116,104,109,101,116,105,99,69,114,114,111,114]⟩⟩) (Value.str ⟨⟨[65,114,105,116,104,109,101,116,105,99,69,114,114,111,114]⟩⟩ 88) (Value.type PySem.W.SL.s3871700062485845797x15)) :: (DictEntry.mk (PyData.keyHash P ⟨⟨[65,115,115,101,114,116,105,111,110,69,114,114,111,114]⟩⟩) (Value.str ⟨⟨[65,115,115,101,114,116,105,111,110,69,114,114,111,114]⟩⟩ 89) (Value.type PySem.W.SL.s7689518266570723881x14)) :: (DictEntry.mk (PyData.keyHash P ⟨⟨[65,116,116,114,105,98,117,116,101,69,114,114,111,114]⟩⟩) (Value.str ⟨⟨[65,116,116,114,105,98,117,116,101,69,114,114,111,114]⟩⟩ 90) (Value.type PySem.W.SL.s9001593270443806431x14)) :: (DictEntry.mk (PyData.keyHash P ⟨⟨[66,117,102,102,101,114,69,114,114,111,114]⟩⟩) (Value.str ⟨⟨[66,117,102,102,101,114,69,114,114,111,114]⟩⟩ 91) (Value.type PySem.W.SL.s6882542574934516792x11)) :: (DictEntry.mk (PyData.keyHash P ⟨⟨[69,79,70,69,114,114,111,114]⟩⟩) (Value.str ⟨⟨[69,79,70,69,114,114,111,114]⟩⟩ 92) (Value.type PySem.W.SL.s14403400214490484960x8)) :: (DictEntry.mk (PyData.keyHash P ⟨⟨[73,109,112,111,114,116,69,114,114,111,114]⟩⟩) (Value.str ⟨⟨[73,109,112,111,114,116,69,114,114,111,114]⟩⟩ 93) (Value.type PySem.W.SL.s14457978657717015782x11)) :: (DictEntry.mk (PyData.keyHash P ⟨⟨[76,111,111,107,117,112,69,114,114,111,114]⟩⟩) (Value.str ⟨⟨[76,111,111,107,117,112,69,114,114,111,114]⟩⟩ 94) (Value.type PySem.W.SL.s1753610191782819921x11)) :: (DictEntry.mk (PyData.keyHash P ⟨⟨[77,101,109,111,114,121,69,114,114,111,114]⟩⟩) (Value.str ⟨⟨[77,101,109,111,114,121,69,114,114,111,114]⟩⟩ 95) (Value.type PySem.W.SL.s14119380538032626715x11)) :: (DictEntry.mk (PyData.keyHash P ⟨⟨[78,97,109,101,69,114,114,111,114]⟩⟩) (Value.str ⟨⟨[78,97,109,101,69,114,114,111,114]⟩⟩ 96) (Value.type PySem.W.SL.s11437920000406562045x9)) :: (DictEntry.mk (PyData.keyHash P ⟨⟨[79,83,69,114,114,111,114]⟩⟩) (Value.str ⟨⟨[79,83,69,114,114,111,114]⟩⟩ 97) (Value.type PySem.W.SL.s10852414792293593619x7)) :: (DictEntry.mk (PyData.keyHash P ⟨⟨[82,101,102,101,114,101,110,99,101,69,114,114,111,114]⟩⟩) (Value.str ⟨⟨[82,101,102,101,114,101,110,99,101,69,114,114,111,114]⟩⟩ 98) (Value.type PySem.W.SL.s14816307405966870543x14)) :: (DictEntry.mk (PyData.keyHash P ⟨⟨[82,117,110,116,105,109,101,69,114,114,111,114]⟩⟩) (Value.str ⟨⟨[82,117,110,116,105,109,101,69,114,114,111,114]⟩⟩ 99) (Value.type PySem.W.SL.s8682627914449686677x12)) :: (DictEntry.mk (PyData.keyHash P ⟨⟨[83,116,111,112,65,115,121,110,99,73,116,101,114,97,116,105,111,110]⟩⟩) (Value.str ⟨⟨[83,116,111,112,65,115,121,110,99,73,116,101,114,97,116,105,111,110]⟩⟩ 100) (Value.type PySem.W.SL.s4428170145600203450x18)) :: (DictEntry.mk (PyData.keyHash P ⟨⟨[83,116,111,112,73,116,101,114,97,116,105,111,110]⟩⟩) (Value.str ⟨⟨[83,116,111,112,73,116,101,114,97,116,105,111,110]⟩⟩ 101) (Value.type PySem.W.SL.s5991306692159431302x13)) :: (DictEntry.mk (PyData.keyHash P ⟨⟨[83,121,110,116,97,120,69,114,114,111,114]⟩⟩) (Value.str ⟨⟨[83,121,110,116,97,120,69,114,114,111,114]⟩⟩ 102) (Value.type PySem.W.SL.s16067994140765818257x11)) :: (DictEntry.mk (PyData.keyHash P ⟨⟨[83,121,115,116,101,109,69,114,114,111,114]⟩⟩) (Value.str ⟨⟨[83,121,115,116,101,109,69,114,114,111,114]⟩⟩ 103) (Value.type PySem.W.SL.s2327743974964600596x11)) :: (DictEntry.mk (PyData.keyHash P ⟨⟨[84,121,112,101,69,114,114,111,114]⟩⟩) (Value.str ⟨⟨[84,121,112,101,69,114,114,111,114]⟩⟩ 104) (Value.type PySem.W.SL.s2804747833354056582x9)) :: (DictEntry.mk (PyData.keyHash P ⟨⟨[86,97,108,117,101,69,114,114,111,114]⟩⟩) (Value.str ⟨⟨[86,97,108,117,101,69,114,114,111,114]⟩⟩ 105) (Value.type PySem.W.SL.s6070975301684473832x10)) :: (DictEntry.mk (PyData.keyHash P ⟨⟨[87,97,114,110,105,110,103]⟩⟩) (Value.str ⟨⟨[87,97,114,110,105,110,103]⟩⟩ 106) (Value.type PySem.W.SL.s14270485950484850486x7)) :: (DictEntry.mk (PyData.keyHash P ⟨⟨[70,108,111,97,116,105,110,103,80,111,105,110,116,69,114,114,111,114]⟩⟩) (Value.str ⟨⟨[70,108,111,97,116,105,110,103,80,111,105,110,116,69,114,114,111,114]⟩⟩ 107) (Value.type PySem.W.SL.s12041534306414923332x18)) :: (DictEntry.mk (PyData.keyHash P ⟨⟨[79,118,101,114,102,108,111,119,69,114,114,111,114]⟩⟩) (Value.str ⟨⟨[79,118,101,114,102,108,111,119,69,114,114,111,114]⟩⟩ 108) (Value.type PySem.W.SL.s2531307568338490285x13)) :: (DictEntry.mk (PyData.keyHash P ⟨⟨[90,101,114,111,68,105,118,105,115,105,111,110,69,114,114,111,114]⟩⟩) (Value.str ⟨⟨[90,101,114,111,68,105,118,105,115,105,111,110,69,114,114,111,114]⟩⟩ 109) (Value.type PySem.W.SL.s631175304937289666x17)) :: (DictEntry.mk (PyData.keyHash P ⟨⟨[66,121,116,101,115,87,97,114,110,105,110,103]⟩⟩) (Value.str ⟨⟨[66,121,116,101,115,87,97,114,110,105,110,103]⟩⟩ 110) (Value.type PySem.W.SL.s5144983644357021410x12)) :: (DictEntry.mk (PyData.keyHash P ⟨⟨[68,101,112,114,101,99,97,116,105,111,110,87,97,114,110,105,110,103]⟩⟩) (Value.str ⟨⟨[68,101,112,114,101,99,97,116,105,111,110,87,97,114,110,105,110,103]⟩⟩ 111) (Value.type PySem.W.SL.s18039099521571816885x18)) :: (DictEntry.mk (PyData.keyHash P ⟨⟨[69,110,99,111,100,105,110,103,87,97,114,110,105,110,103]⟩⟩) (Value.str ⟨⟨[69,110,99,111,100,105,110,103,87,97,114,110,105,110,103]⟩⟩ 112) (Value.type PySem.W.SL.s6011586214260557989x15)) :: (DictEntry.mk (PyData.keyHash P ⟨⟨[70,117,116,117,114,101,87,97,114,110,105,110,103]⟩⟩) (Value.str ⟨⟨[70,117,116,117,114,101,87,97,114,110,105,110,103]⟩⟩ 113) (Value.type PySem.W.SL.s5430567037509283100x13)) :: (DictEntry.mk (PyData.keyHash P ⟨⟨[73,109,112,111,114,116,87,97,114,110,105,110,103]⟩⟩) (Value.str ⟨⟨[73,109,112,111,114,116,87,97,114,110,105,110,103]⟩⟩ 114) (Value.type PySem.W.SL.s8117915138073963741x13)) :: (DictEntry.mk (PyData.keyHash P ⟨⟨[80,101,110,100,105,110,103,68,101,112,114,101,99,97,116,105,111,110,87,97,114,110,105,110,103]⟩⟩) (Value.str ⟨⟨[80,101,110,100,105,110,103,68,101,112,114,101,99,97,116,105,111,110,87,97,114,110,105,110,103]⟩⟩ 115) (Value.type PySem.W.SL.s3423317712779056401x25)) :: (DictEntry.mk (PyData.keyHash P ⟨⟨[82,101,115,111,117,114,99,101,87,97,114,110,105,110,103]⟩⟩) (Value.str ⟨⟨[82,101,115,111,117,114,99,101,87,97,114,110,105,110,103]⟩⟩ 116) (Value.type PySem.W.SL.s2007317383269046180x15)) :: (DictEntry.mk (PyData.keyHash P ⟨⟨[82,117,110,116,105,109,101,87,97,114,110,105,110,103]⟩⟩) (Value.str ⟨⟨[82,117,110,116,105,109,101,87,97,114,110,105,110,103]⟩⟩ 117) (Value.type PySem.W.SL.s17481586968713580700x14)) :: (DictEntry.mk (PyData.keyHash P ⟨⟨[83,121,110,116,97,120,87,97,114,110,105,110,103]⟩⟩) (Value.str ⟨⟨[83,121,110,116,97,120,87,97,114,110,105,110,103]⟩⟩ 118) (Value.type PySem.W.SL.s2450899226349176912x13)) :: (DictEntry.mk (PyData.keyHash P ⟨⟨[85,110,105,99,111,100,101,87,97,114,110,105,110,103]⟩⟩) (Value.str ⟨⟨[85,110,105,99,111,100,101,87,97,114,110,105,110,103]⟩⟩ 119) (Value.type PySem.W.SL.s16626165730633575011x14)) :: (DictEntry.mk (PyData.keyHash P ⟨⟨[85,115,101,114,87,97,114,110,105,110,103]⟩⟩) (Value.str ⟨⟨[85,115,101,114,87,97,114,110,105,110,103]⟩⟩ 120) (Value.type PySem.W.SL.s14288496050688921416x11)) :: (DictEntry.mk (PyData.keyHash P ⟨⟨[66,108,111,99,107,105,110,103,73,79,69,114,114,111,114]⟩⟩) (Value.str ⟨⟨[66,108,111,99,107,105,110,103,73,79,69,114,114,111,114]⟩⟩ 121) (Value.type PySem.W.SL.s5735081916595925998x15)) :: (DictEntry.mk (PyData.keyHash P ⟨⟨[67,104,105,108,100,80,114,111,99,101,115,115,69,114,114,111,114]⟩⟩) (Value.str ⟨⟨[67,104,105,108,100,80,114,111,99,101,115,115,69,114,114,111,114]⟩⟩ 122) (Value.type PySem.W.SL.s3865607918536308442x17)) :: (DictEntry.mk (PyData.keyHash P ⟨⟨[67,111,110,110,101,99,116,105,111,110,69,114,114,111,114]⟩⟩) (Value.str ⟨⟨[67,111,110,110,101,99,116,105,111,110,69,114,114,111,114]⟩⟩ 123) (Value.type PySem.W.SL.s13337502604062700212x15)) :: (DictEntry.mk (PyData.keyHash P ⟨⟨[70,105,108,101,69,120,105,115,116,115,69,114,114,111,114]⟩⟩) (Value.str ⟨⟨[70,105,108,101,69,120,105,115,116,115,69,114,114,111,114]⟩⟩ 124) (Value.type PySem.W.SL.s13114017843053701147x15)) :: (DictEntry.mk (PyData.keyHash P ⟨⟨[70,105,108,101,78,111,116,70,111,117,110,100,69,114,114,111,114]⟩⟩) (Value.str ⟨⟨[70,105,108,101,78,111,116,70,111,117,110,100,69,114,114,111,114]⟩⟩ 125) (Value.type PySem.W.SL.s17467278006356818441x17)) :: (DictEntry.mk (PyData.keyHash P ⟨⟨[73,110,116,101,114,114,117,112,116,101,100,69,114,114,111,114]⟩⟩) (Value.str ⟨⟨[73,110,116,101,114,114,117,112,116,101,100,69,114,114,111,114]⟩⟩ 126) (Value.type PySem.W.SL.s17722149559621369488x16)) :: (DictEntry.mk (PyData.keyHash P ⟨⟨[73,115,65,68,105,114,101,99,116,111,114,121,69,114,114,111,114]⟩⟩) (Value.str ⟨⟨[73,115,65,68,105,114,101,99,116,111,114,121,69,114,114,111,114]⟩⟩ 127) (Value.type PySem.W.SL.s7855274175708717672x17)) :: (DictEntry.mk (PyData.keyHash P ⟨⟨[78,111,116,65,68,105,114,101,99,116,111,114,121,69,114,114,111,114]⟩⟩) (Value.str ⟨⟨[78,111,116,65,68,105,114,101,99,116,111,114,121,69,114,114,111,114]⟩⟩ 128) (Value.type PySem.W.SL.s13351283678309829046x18)) :: (DictEntry.mk (PyData.keyHash P ⟨⟨[80,101,114,109,105,115,115,105,111,110,69,114,114,111,114]⟩⟩) (Value.str ⟨⟨[80,101,114,109,105,115,115,105,111,110,69,114,114,111,114]⟩⟩ 129) (Value.type PySem.W.SL.s6668348653404991179x15)) :: (DictEntry.mk (PyData.keyHash P ⟨⟨[80,114,111,99,101,115,115,76,111,111,107,117,112,69,114,114,111,114]⟩⟩) (Value.str ⟨⟨[80,114,111,99,101,115,115,76,111,111,107,117,112,69,114,114,111,114]⟩⟩ 130) (Value.type PySem.W.SL.s12913350958174193794x18)) :: (DictEntry.mk (PyData.keyHash P ⟨⟨[84,105,109,101,111,117,116,69,114,114,111,114]⟩⟩) (Value.str ⟨⟨[84,105,109,101,111,117,116,69,114,114,111,114]⟩⟩ 131) (Value.type PySem.W.SL.s16115879512475548326x12)) :: (DictEntry.mk (PyData.keyHash P ⟨⟨[73,110,100,101,110,116,97,116,105,111,110,69,114,114,111,114]⟩⟩) (Value.str ⟨⟨[73,110,100,101,110,116,97,116,105,111,110,69,114,114,111,114]⟩⟩ 132) (Value.type PySem.W.SL.s15920661018069861047x16)) :: (DictEntry.mk (PyData.keyHash P ⟨⟨[95,73,110,99,111,109,112,108,101,116,101,73,110,112,117,116,69,114,114,111,114]⟩⟩) (Value.str ⟨⟨[95,73,110,99,111,109,112,108,101,116,101,73,110,112,117,116,69,114,114,111,114]⟩⟩ 133) (Value.type PySem.W.SL.s10779130036587390575x21)) :: (DictEntry.mk (PyData.keyHash P ⟨⟨[73,110,100,101,120,69,114,114,111,114]⟩⟩) (Value.str ⟨⟨[73,110,100,101,120,69,114,114,111,114]⟩⟩ 134) (Value.type PySem.W.SL.s7801419657504700863x10)) :: (DictEntry.mk (PyData.keyHash P ⟨⟨[75,101,121,69,114,114,111,114]⟩⟩) (Value.str ⟨⟨[75,101,121,69,114,114,111,114]⟩⟩ 135) (Value.type PySem.W.SL.s1688129525768580628x8)) :: (DictEntry.mk (PyData.keyHash P ⟨⟨[77,111,100,117,108,101,78,111,116,70,111,117,110,100,69,114,114,111,114]⟩⟩) (Value.str ⟨⟨[77,111,100,117,108,101,78,111,116,70,111,117,110,100,69,114,114,111,114]⟩⟩ 136) (Value.type PySem.W.SL.s1031832959479892071x19)) :: (DictEntry.mk (PyData.keyHash P ⟨⟨[78,111,116,73,109,112,108,101,109,101,110,116,101,100,69,114,114,111,114]⟩⟩) (Value.str ⟨⟨[78,111,116,73,109,112,108,101,109,101,110,116,101,100,69,114,114,111,114]⟩⟩ 137) (Value.type PySem.W.SL.s8991790508128307865x19)) :: (DictEntry.mk (PyData.keyHash P ⟨⟨[80,121,116,104,111,110,70,105,110,97,108,105,122,97,116,105,111,110,69,114,114,111,114]⟩⟩) (Value.str ⟨⟨[80,121,116,104,111,110,70,105,110,97,108,105,122,97,116,105,111,110,69,114,114,111,114]⟩⟩ 138) (Value.type PySem.W.SL.s14539662485746970245x23)) :: (DictEntry.mk (PyData.keyHash P ⟨⟨[82,101,99,117,114,115,105,111,110,69,114,114,111,114]⟩⟩) (Value.str ⟨⟨[82,101,99,117,114,115,105,111,110,69,114,114,111,114]⟩⟩ 139) (Value.type PySem.W.SL.s11643622729373238714x14)) :: (DictEntry.mk (PyData.keyHash P ⟨⟨[85,110,98,111,117,110,100,76,111,99,97,108,69,114,114,111,114]⟩⟩) (Value.str ⟨⟨[85,110,98,111,117,110,100,76,111,99,97,108,69,114,114,111,114]⟩⟩ 140) (Value.type PySem.W.SL.s3386828779285465597x17)) :: (DictEntry.mk (PyData.keyHash P ⟨⟨[85,110,105,99,111,100,101,69,114,114,111,114]⟩⟩) (Value.str ⟨⟨[85,110,105,99,111,100,101,69,114,114,111,114]⟩⟩ 141) (Value.type PySem.W.SL.s13042696260734638735x12)) :: (DictEntry.mk (PyData.keyHash P ⟨⟨[66,114,111,107,101,110,80,105,112,101,69,114,114,111,114]⟩⟩) (Value.str ⟨⟨[66,114,111,107,101,110,80,105,112,101,69,114,114,111,114]⟩⟩ 142) (Value.type PySem.W.SL.s18239426817015966623x15)) :: (DictEntry.mk (PyData.keyHash P ⟨⟨[67,111,110,110,101,99,116,105,111,110,65,98,111,114,116,101,100,69,114,114,111,114]⟩⟩) (Value.str ⟨⟨[67,111,110,110,101,99,116,105,111,110,65,98,111,114,116,101,100,69,114,114,111,114]⟩⟩ 143) (Value.type PySem.W.SL.s1270395311379034370x22)) :: (DictEntry.mk (PyData.keyHash P ⟨⟨[67,111,110,110,101,99,116,105,111,110,82,101,102,117,115,101,100,69,114,114,111,114]⟩⟩) (Value.str ⟨⟨[67,111,110,110,101,99,116,105,111,110,82,101,102,117,115,101,100,69,114,114,111,114]⟩⟩ 144) (Value.type PySem.W.SL.s10696252587037064777x22)) :: (DictEntry.mk (PyData.keyHash P ⟨⟨[67,111,110,110,101,99,116,105,111,110,82,101,115,101,116,69,114,114,111,114]⟩⟩) (Value.str ⟨⟨[67,111,110,110,101,99,116,105,111,110,82,101,115,101,116,69,114,114,111,114]⟩⟩ 145) (Value.type PySem.W.SL.s7852717498200857586x20)) :: (DictEntry.mk (PyData.keyHash P ⟨⟨[84,97,98,69,114,114,111,114]⟩⟩) (Value.str ⟨⟨[84,97,98,69,114,114,111,114]⟩⟩ 146) (Value.type PySem.W.SL.s6377248116197321094x8)) :: (DictEntry.mk (PyData.keyHash P ⟨⟨[85,110,105,99,111,100,101,68,101,99,111,100,101,69,114,114,111,114]⟩⟩) (Value.str ⟨⟨[85,110,105,99,111,100,101,68,101,99,111,100,101,69,114,114,111,114]⟩⟩ 147) (Value.type PySem.W.SL.s3834378056692298002x18)) :: (DictEntry.mk (PyData.keyHash P ⟨⟨[85,110,105,99,111,100,101,69,110,99,111,100,101,69,114,114,111,114]⟩⟩) (Value.str ⟨⟨[85,110,105,99,111,100,101,69,110,99,111,100,101,69,114,114,111,114]⟩⟩ 148) (Value.type PySem.W.SL.s17586630440231065808x18)) :: (DictEntry.mk (PyData.keyHash P ⟨⟨[85,110,105,99,111,100,101,84,114,97,110,115,108,97,116,101,69,114,114,111,114]⟩⟩) (Value.str ⟨⟨[85,110,105,99,111,100,101,84,114,97,110,115,108,97,116,101,69,114,114,111,114]⟩⟩ 149) (Value.type PySem.W.SL.s15234114252648025395x21)) :: (DictEntry.mk (PyData.keyHash P ⟨⟨[69,120,99,101,112,116,105,111,110,71,114,111,117,112]⟩⟩) (Value.str ⟨⟨[69,120,99,101,112,116,105,111,110,71,114,111,117,112]⟩⟩ 150) (Value.type PySem.W.SL.s8496462677383758984x14)) :: (DictEntry.mk (PyData.keyHash P ⟨⟨[69,110,118,105,114,111,110,109,101,110,116,69,114,114,111,114]⟩⟩) (Value.str ⟨⟨[69,110,118,105,114,111,110,109,101,110,116,69,114,114,111,114]⟩⟩ 151) (Value.type PySem.W.SL.s10852414792293593619x7)) :: (DictEntry.mk (PyData.keyHash P ⟨⟨[73,79,69,114,114,111,114]⟩⟩) (Value.str ⟨⟨[73,79,69,114,114,111,114]⟩⟩ 152) (Value.type PySem.W.SL.s10852414792293593619x7)) :: (DictEntry.mk (PyData.keyHash P ⟨⟨[111,112,101,110]⟩⟩) (Value.str ⟨⟨[111,112,101,110]⟩⟩ 153) (Value.builtin PySem.W.SL.s16789243406116112673x4)) :: (DictEntry.mk (PyData.keyHash P ⟨⟨[113,117,105,116]⟩⟩) (Value.str ⟨⟨[113,117,105,116]⟩⟩ 154) (Value.builtin PySem.W.SL.s14400166428656793546x20)) :: (DictEntry.mk (PyData.keyHash P ⟨⟨[101,120,105,116]⟩⟩) (Value.str ⟨⟨[101,120,105,116]⟩⟩ 155) (Value.builtin PySem.W.SL.s5857708277339239366x20)) :: (DictEntry.mk (PyData.keyHash P ⟨⟨[99,111,112,121,114,105,103,104,116]⟩⟩) (Value.str ⟨⟨[99,111,112,121,114,105,103,104,116]⟩⟩ 156) (Value.builtin "builtins.copyright#opaque")) :: (DictEntry.mk (PyData.keyHash P ⟨⟨[99,114,101,100,105,116,115]⟩⟩) (Value.str ⟨⟨[99,114,101,100,105,116,115]⟩⟩ 157) (Value.builtin "builtins.credits#opaque")) :: (DictEntry.mk (PyData.keyHash P ⟨⟨[108,105,99,101,110,115,101]⟩⟩) (Value.str ⟨⟨[108,105,99,101,110,115,101]⟩⟩ 158) (Value.builtin "builtins.license#opaque")) :: (DictEntry.mk (PyData.keyHash P ⟨⟨[104,101,108,112]⟩⟩) (Value.str ⟨⟨[104,101,108,112]⟩⟩ 159) (Value.builtin PySem.W.SL.s7804999707787243718x20)) :: [])) 159) (List.toArray []))
noncomputable def o_43 (P : Params) : Obj := (Obj.mk (Value.type PySem.W.SL.s14018661285674007319x4) Option.none (Data.dict (List.toArray [(DictEntry.mk (PyData.keyHash P ⟨⟨[98,117,105,108,116,105,110,115]⟩⟩) (Value.str ⟨⟨[98,117,105,108,116,105,110,115]⟩⟩ 162) (Value.ref 4)), (DictEntry.mk (PyData.keyHash P ⟨⟨[95,95,109,97,105,110,95,95]⟩⟩) (Value.str ⟨⟨[95,95,109,97,105,110,95,95]⟩⟩ 163) (Value.ref 5))]) 2) (List.toArray []))
noncomputable def o_44 (P : Params) : Obj := (Obj.mk Value.none Option.none (Data.dict (List.toArray []) 0) (List.toArray []))
noncomputable def o_45 (P : Params) : Obj := (Obj.mk (Value.type PySem.W.SL.s14018661285674007319x4) Option.none (Data.dict (List.toArray [(DictEntry.mk (PyData.keyHash P ⟨⟨[95,95,110,97,109,101,95,95]⟩⟩) (Value.str ⟨⟨[95,95,110,97,109,101,95,95]⟩⟩ 165) (Value.str ⟨⟨[95,95,109,97,105,110,95,95]⟩⟩ 164)), (DictEntry.mk (PyData.keyHash P ⟨⟨[95,95,100,111,99,95,95]⟩⟩) (Value.str ⟨⟨[95,95,100,111,99,95,95]⟩⟩ 166) Value.none), (DictEntry.mk (PyData.keyHash P ⟨⟨[95,95,112,97,99,107,97,103,101,95,95]⟩⟩) (Value.str ⟨⟨[95,95,112,97,99,107,97,103,101,95,95]⟩⟩ 167) Value.none), (DictEntry.mk (PyData.keyHash P ⟨⟨[95,95,108,111,97,100,101,114,95,95]⟩⟩) (Value.str ⟨⟨[95,95,108,111,97,100,101,114,95,95]⟩⟩ 168) (Value.builtin PySem.W.SL.s7097527257260152453x26)), (DictEntry.mk (PyData.keyHash P ⟨⟨[95,95,115,112,101,99,95,95]⟩⟩) (Value.str ⟨⟨[95,95,115,112,101,99,95,95]⟩⟩ 169) Value.none), (DictEntry.mk (PyData.keyHash P ⟨⟨[95,95,97,110,110,111,116,97,116,105,111,110,115,95,95]⟩⟩) (Value.str ⟨⟨[95,95,97,110,110,111,116,97,116,105,111,110,115,95,95]⟩⟩ 170) (Value.ref 6)), (DictEntry.mk (PyData.keyHash P ⟨⟨[95,95,98,117,105,108,116,105,110,115,95,95]⟩⟩) (Value.str ⟨⟨[95,95,98,117,105,108,116,105,110,115,95,95]⟩⟩ 171) (Value.ref 4)), (DictEntry.mk (PyData.keyHash P ⟨⟨[95,95,102,105,108,101,95,95]⟩⟩) (Value.str ⟨⟨[95,95,102,105,108,101,95,95]⟩⟩ 173) (Value.str ⟨⟨[47,99,108,97,105,109,47,99,117,116,46,112,121]⟩⟩ 172)), (DictEntry.mk (PyData.keyHash P ⟨⟨[95,95,99,97,99,104,101,100,95,95]⟩⟩) (Value.str ⟨⟨[95,95,99,97,99,104,101,100,95,95]⟩⟩ 174) Value.none)]) 9) (List.toArray []))
noncomputable def o_46 (P : Params) : Obj := (Obj.mk (Value.type PySem.W.SL.s6658869562736209489x6) (Option.some 0) Data.plain (List.toArray []))
noncomputable def o_47 (P : Params) : Obj := (Obj.mk (Value.type PySem.W.SL.s6658869562736209489x6) (Option.some 3) Data.plain (List.toArray []))
noncomputable def o_48 (P : Params) : Obj := (Obj.mk (Value.type PySem.W.SL.s14018661285674007319x4) Option.none (Data.dict (List.toArray []) 0) (List.toArray []))
noncomputable def o_49 (P : Params) : Obj := (Obj.mk (Value.type PySem.W.SL.s2766695959194262286x5) Option.none (Data.seq (List.toArray []) 0) (List.toArray []))
noncomputable def o_50 (P : Params) : Obj := (Obj.mk Value.none Option.none (Data.fields (List.toArray [])) (List.toArray []))
noncomputable def o_51 (P : Params) : Obj := (Obj.mk (Value.type PySem.W.SL.s5856160107412720595x4) Option.none (Data.fields (List.toArray [(Value.str ⟨⟨[60,109,111,100,117,108,101,62]⟩⟩ 176), (Value.str ⟨⟨[60,109,111,100,117,108,101,62]⟩⟩ 177), (Value.str ⟨⟨[47,99,108,97,105,109,47,99,117,116,46,112,121]⟩⟩ 178), (Value.int 1 0), (Value.int 0 0), (Value.int 0 0), (Value.int 0 0), (Value.int 0 0), (Value.ref 7), (Value.bool Bool.false), (Value.int 175 0), (Value.ref 8), Value.none, Value.none, Value.none, Value.none, (Value.int 179 0), (Value.int 1 0), (Value.str ⟨⟨[47,99,108,97,105,109,47,99,117,116,46,112,121]⟩⟩ 180)])) (List.toArray []))
noncomputable def o_52 (P : Params) : Obj := (Obj.mk (Value.type PySem.W.SL.s658472552662922059x5) Option.none Data.plain (List.toArray [(Option.some (Value.ref 9)), (Option.some (Value.ref 3)), (Option.some (Value.ref 3)), Option.none, (Option.some (Value.str ⟨⟨[95,95,109,97,105,110,95,95]⟩⟩ 164)), Option.none, (Option.some (Value.ref 0))]))
noncomputable def heap_52 (P : Params) : Heap := (Heap.mk ⟨[(o_42 P), (o_43 P), (o_44 P), (o_45 P), (o_46 P), (o_47 P), (o_48 P), (o_49 P), (o_50 P), (o_51 P), (o_52 P)]⟩ (Life.mk [] [] [] 0 [] [] Bool.false (List.toArray []) [] 0 Bool.false Bool.false Bool.false 0 [2000, 10, 10] Bool.false 0 Bool.true [] [] 0 Bool.false))
noncomputable def o_53 (P : Params) : Obj := (Obj.mk (Value.type PySem.W.SL.s2766695959194262286x5) Option.none (Data.seq (List.toArray []) 0) (List.toArray []))
noncomputable def o_54 (P : Params) : Obj := (Obj.mk Value.none Option.none (Data.fields (List.toArray [])) (List.toArray []))
noncomputable def o_55 (P : Params) : Obj := (Obj.mk (Value.type PySem.W.SL.s5856160107412720595x4) Option.none (Data.fields (List.toArray [(Value.str ⟨⟨[60,109,111,100,117,108,101,62]⟩⟩ 182), (Value.str ⟨⟨[60,109,111,100,117,108,101,62]⟩⟩ 183), (Value.str ⟨⟨[47,99,108,97,105,109,47,99,117,116,46,112,121]⟩⟩ 184), (Value.int 1 0), (Value.int 0 0), (Value.int 0 0), (Value.int 0 0), (Value.int 0 0), (Value.ref 11), (Value.bool Bool.false), (Value.int 181 0), (Value.ref 12), Value.none, Value.none, Value.none, Value.none, (Value.int 185 0), (Value.int 1 0), (Value.str ⟨⟨[47,99,108,97,105,109,47,99,117,116,46,112,121]⟩⟩ 186)])) (List.toArray []))
noncomputable def o_56 (P : Params) : Obj := (Obj.mk (Value.type PySem.W.SL.s658472552662922059x5) Option.none Data.plain (List.toArray [(Option.some (Value.ref 13)), (Option.some (Value.ref 3)), (Option.some (Value.ref 3)), Option.none, (Option.some (Value.str ⟨⟨[95,95,109,97,105,110,95,95]⟩⟩ 164)), Option.none, (Option.some (Value.ref 0))]))
noncomputable def heap_56 (P : Params) : Heap := (Heap.mk ⟨[(o_42 P), (o_43 P), (o_44 P), (o_45 P), (o_46 P), (o_47 P), (o_48 P), (o_49 P), (o_50 P), (o_51 P), (o_52 P), (o_53 P), (o_54 P), (o_55 P), (o_56 P)]⟩ (Life.mk [] [] [] 0 [] [] Bool.false (List.toArray []) [] 0 Bool.false Bool.false Bool.false 0 [2000, 10, 10] Bool.false 0 Bool.true [] [] 0 Bool.false))
noncomputable def tree_57 (P : Params) : BT := (BT.node (o_42 P) (BT.node (o_43 P) (BT.node (o_45 P) (BT.node (o_49 P) BT.nil BT.nil) (BT.node (o_53 P) BT.nil BT.nil)) (BT.node (o_47 P) (BT.node (o_51 P) BT.nil BT.nil) (BT.node (o_55 P) BT.nil BT.nil))) (BT.node (o_44 P) (BT.node (o_46 P) (BT.node (o_50 P) BT.nil BT.nil) (BT.node (o_54 P) BT.nil BT.nil)) (BT.node (o_48 P) (BT.node (o_52 P) BT.nil BT.nil) (BT.node (o_56 P) BT.nil BT.nil))))
noncomputable def o_61 (P : Params) : Obj := (Obj.mk (Value.type PySem.W.SL.s14018661285674007319x4) Option.none (Data.dict (List.toArray [(DictEntry.mk (PyData.keyHash P ⟨⟨[95,95,110,97,109,101,95,95]⟩⟩) (Value.str ⟨⟨[95,95,110,97,109,101,95,95]⟩⟩ 165) (Value.str ⟨⟨[95,95,109,97,105,110,95,95]⟩⟩ 164)), (DictEntry.mk (PyData.keyHash P ⟨⟨[95,95,100,111,99,95,95]⟩⟩) (Value.str ⟨⟨[95,95,100,111,99,95,95]⟩⟩ 166) Value.none), (DictEntry.mk (PyData.keyHash P ⟨⟨[95,95,112,97,99,107,97,103,101,95,95]⟩⟩) (Value.str ⟨⟨[95,95,112,97,99,107,97,103,101,95,95]⟩⟩ 167) Value.none), (DictEntry.mk (PyData.keyHash P ⟨⟨[95,95,108,111,97,100,101,114,95,95]⟩⟩) (Value.str ⟨⟨[95,95,108,111,97,100,101,114,95,95]⟩⟩ 168) (Value.builtin PySem.W.SL.s7097527257260152453x26)), (DictEntry.mk (PyData.keyHash P ⟨⟨[95,95,115,112,101,99,95,95]⟩⟩) (Value.str ⟨⟨[95,95,115,112,101,99,95,95]⟩⟩ 169) Value.none), (DictEntry.mk (PyData.keyHash P ⟨⟨[95,95,97,110,110,111,116,97,116,105,111,110,115,95,95]⟩⟩) (Value.str ⟨⟨[95,95,97,110,110,111,116,97,116,105,111,110,115,95,95]⟩⟩ 170) (Value.ref 6)), (DictEntry.mk (PyData.keyHash P ⟨⟨[95,95,98,117,105,108,116,105,110,115,95,95]⟩⟩) (Value.str ⟨⟨[95,95,98,117,105,108,116,105,110,115,95,95]⟩⟩ 171) (Value.ref 4)), (DictEntry.mk (PyData.keyHash P ⟨⟨[95,95,102,105,108,101,95,95]⟩⟩) (Value.str ⟨⟨[95,95,102,105,108,101,95,95]⟩⟩ 173) (Value.str ⟨⟨[47,99,108,97,105,109,47,99,117,116,46,112,121]⟩⟩ 172)), (DictEntry.mk (PyData.keyHash P ⟨⟨[95,95,99,97,99,104,101,100,95,95]⟩⟩) (Value.str ⟨⟨[95,95,99,97,99,104,101,100,95,95]⟩⟩ 174) Value.none), (DictEntry.mk (PyData.keyHash P ⟨⟨[67,82,76,70]⟩⟩) (Value.str ⟨⟨[67,82,76,70]⟩⟩ 188) (Value.str ⟨⟨[13,10]⟩⟩ 187)), (DictEntry.mk (PyData.keyHash P ⟨⟨[78,76]⟩⟩) (Value.str ⟨⟨[78,76]⟩⟩ 190) (Value.str ⟨⟨[10]⟩⟩ 189)), (DictEntry.mk (PyData.keyHash P ⟨⟨[95,81,85,79,80,82,73,95,77,65,80]⟩⟩) (Value.str ⟨⟨[95,81,85,79,80,82,73,95,77,65,80]⟩⟩ 1218) (Value.ref 17))]) 12) (List.toArray []))
noncomputable def o_62 (P : Params) : Obj := (Obj.mk (Value.type PySem.W.SL.s1438033511350832697x5) Option.none (Data.fields (List.toArray [(Value.int 0 192), (Value.int 256 191), (Value.int 1 193)])) (List.toArray []))
noncomputable def o_66 (P : Params) : Obj := (Obj.mk (Value.type PySem.W.SL.s2766695959194262286x5) Option.none (Data.seq (List.toArray []) 0) (List.toArray []))
noncomputable def o_64 (P : Params) : Obj := (Obj.mk (Value.type PySem.W.SL.s9222952809800978799x4) Option.none (Data.seq (List.toArray ((Value.str ⟨⟨[61,48,48]⟩⟩ 197) :: (Value.str ⟨⟨[61,48,49]⟩⟩ 201) :: (Value.str ⟨⟨[61,48,50]⟩⟩ 205) :: (Value.str ⟨⟨[61,48,51]⟩⟩ 209) :: (Value.str ⟨⟨[61,48,52]⟩⟩ 213) :: (Value.str ⟨⟨[61,48,53]⟩⟩ 217) :: (Value.str ⟨⟨[61,48,54]⟩⟩ 221) :: (Value.str ⟨⟨[61,48,55]⟩⟩ 225) :: (Value.str ⟨⟨[61,48,56]⟩⟩ 229) :: (Value.str ⟨⟨[61,48,57]⟩⟩ 233) :: (Value.str ⟨⟨[61,48,65]⟩⟩ 237) :: (Value.str ⟨⟨[61,48,66]⟩⟩ 241) :: (Value.str ⟨⟨[61,48,67]⟩⟩ 245) :: (Value.str ⟨⟨[61,48,68]⟩⟩ 249) :: (Value.str ⟨⟨[61,48,69]⟩⟩ 253) :: (Value.str ⟨⟨[61,48,70]⟩⟩ 257) :: (Value.str ⟨⟨[61,49,48]⟩⟩ 261) :: (Value.str ⟨⟨[61,49,49]⟩⟩ 265) :: (Value.str ⟨⟨[61,49,50]⟩⟩ 269) :: (Value.str ⟨⟨[61,49,51]⟩⟩ 273) :: (Value.str ⟨⟨[61,49,52]⟩⟩ 277) :: (Value.str ⟨⟨[61,49,53]⟩⟩ 281) :: (Value.str ⟨⟨[61,49,54]⟩⟩ 285) :: (Value.str ⟨⟨[61,49,55]⟩⟩ 289) :: (Value.str ⟨⟨[61,49,56]⟩⟩ 293) :: (Value.str ⟨⟨[61,49,57]⟩⟩ 297) :: (Value.str ⟨⟨[61,49,65]⟩⟩ 301) :: (Value.str ⟨⟨[61,49,66]⟩⟩ 305) :: (Value.str ⟨⟨[61,49,67]⟩⟩ 309) :: (Value.str ⟨⟨[61,49,68]⟩⟩ 313) :: (Value.str ⟨⟨[61,49,69]⟩⟩ 317) :: (Value.str ⟨⟨[61,49,70]⟩⟩ 321) :: (Value.str ⟨⟨[61,50,48]⟩⟩ 325) :: (Value.str ⟨⟨[61,50,49]⟩⟩ 329) :: (Value.str ⟨⟨[61,50,50]⟩⟩ 333) :: (Value.str ⟨⟨[61,50,51]⟩⟩ 337) :: (Value.str ⟨⟨[61,50,52]⟩⟩ 341) :: (Value.str ⟨⟨[61,50,53]⟩⟩ 345) :: (Value.str ⟨⟨[61,50,54]⟩⟩ 349) :: (Value.str ⟨⟨[61,50,55]⟩⟩ 353) :: (Value.str ⟨⟨[61,50,56]⟩⟩ 357) :: (Value.str ⟨⟨[61,50,57]⟩⟩ 361) :: (Value.str ⟨⟨[61,50,65]⟩⟩ 365) :: (Value.str ⟨⟨[61,50,66]⟩⟩ 369) :: (Value.str ⟨⟨[61,50,67]⟩⟩ 373) :: (Value.str ⟨⟨[61,50,68]⟩⟩ 377) :: (Value.str ⟨⟨[61,50,69]⟩⟩ 381) :: (Value.str ⟨⟨[61,50,70]⟩⟩ 385) :: (Value.str ⟨⟨[61,51,48]⟩⟩ 389) :: (Value.str ⟨⟨[61,51,49]⟩⟩ 393) :: (Value.str ⟨⟨[61,51,50]⟩⟩ 397) :: (Value.str ⟨⟨[61,51,51]⟩⟩ 401) :: (Value.str ⟨⟨[61,51,52]⟩⟩ 405) :: (Value.str ⟨⟨[61,51,53]⟩⟩ 409) :: (Value.str ⟨⟨[61,51,54]⟩⟩ 413) :: (Value.str ⟨⟨[61,51,55]⟩⟩ 417) :: (Value.str ⟨⟨[61,51,56]⟩⟩ 421) :: (Value.str ⟨⟨[61,51,57]⟩⟩ 425) :: (Value.str ⟨⟨[61,51,65]⟩⟩ 429) :: (Value.str ⟨⟨[61,51,66]⟩⟩ 433) :: (Value.str ⟨⟨[61,51,67]⟩⟩ 437) :: (Value.str ⟨⟨[61,51,68]⟩⟩ 441) :: (Value.str ⟨⟨[61,51,69]⟩⟩ 445) :: (Value.str ⟨⟨[61,51,70]⟩⟩ 449) :: (Value.str ⟨⟨[61,52,48]⟩⟩ 453) :: (Value.str ⟨⟨[61,52,49]⟩⟩ 457) :: (Value.str ⟨⟨[61,52,50]⟩⟩ 461) :: (Value.str ⟨⟨[61,52,51]⟩⟩ 465) :: (Value.str ⟨⟨[61,52,52]⟩⟩ 469) :: (Value.str ⟨⟨[61,52,53]⟩⟩ 473) :: (Value.str ⟨⟨[61,52,54]⟩⟩ 477) :: (Value.str ⟨⟨[61,52,55]⟩⟩ 481) :: (Value.str ⟨⟨[61,52,56]⟩⟩ 485) :: (Value.str ⟨⟨[61,52,57]⟩⟩ 489) :: (Value.str ⟨⟨[61,52,65]⟩⟩ 493) :: (Value.str ⟨⟨[61,52,66]⟩⟩ 497) :: (Value.str ⟨⟨[61,52,67]⟩⟩ 501) :: (Value.str ⟨⟨[61,52,68]⟩⟩ 505) :: (Value.str ⟨⟨[61,52,69]⟩⟩ 509) :: (Value.str ⟨⟨[61,52,70]⟩⟩ 513) :: (Value.str ⟨⟨[61,53,48]⟩⟩ 517) :: (Value.str ⟨⟨[61,53,49]⟩⟩ 521) :: (Value.str ⟨⟨[61,53,50]⟩⟩ 525) :: (Value.str ⟨⟨[61,53,51]⟩⟩ 529) :: (Value.str ⟨⟨[61,53,52]⟩⟩ 533) :: (Value.str ⟨⟨[61,53,53]⟩⟩ 537) :: (Value.str ⟨⟨[61,53,54]⟩⟩ 541) :: (Value.str ⟨⟨[61,53,55]⟩⟩ 545) :: (Value.str ⟨⟨[61,53,56]⟩⟩ 549) :: (Value.str ⟨⟨[61,53,57]⟩⟩ 553) :: (Value.str ⟨⟨[61,53,65]⟩⟩ 557) :: (Value.str ⟨⟨[61,53,66]⟩⟩ 561) :: (Value.str ⟨⟨[61,53,67]⟩⟩ 565) :: (Value.str ⟨⟨[61,53,68]⟩⟩ 569) :: (Value.str ⟨⟨[61,53,69]⟩⟩ 573) :: (Value.str ⟨⟨[61,53,70]⟩⟩ 577) :: (Value.str ⟨⟨[61,54,48]⟩⟩ 581) :: (Value.str ⟨⟨[61,54,49]⟩⟩ 585) :: (Value.str ⟨⟨[61,54,50]⟩⟩ 589) :: (Value.str ⟨⟨[61,54,51]⟩⟩ 593) :: (Value.str ⟨⟨[61,54,52]⟩⟩ 597) :: (Value.str ⟨⟨[61,54,53]⟩⟩ 601) :: (Value.str ⟨⟨[61,54,54]⟩⟩ 605) :: (Value.str ⟨⟨[61,54,55]⟩⟩ 609) :: (Value.str ⟨⟨[61,54,56]⟩⟩ 613) :: (Value.str ⟨⟨[61,54,57]⟩⟩ 617) :: (Value.str ⟨⟨[61,54,65]⟩⟩ 621) :: (Value.str ⟨⟨[61,54,66]⟩⟩ 625) :: (Value.str ⟨⟨[61,54,67]⟩⟩ 629) :: (Value.str ⟨⟨[61,54,68]⟩⟩ 633) :: (Value.str ⟨⟨[61,54,69]⟩⟩ 637) :: (Value.str ⟨⟨[61,54,70]⟩⟩ 641) :: (Value.str ⟨⟨[61,55,48]⟩⟩ 645) :: (Value.str ⟨⟨[61,55,49]⟩⟩ 649) :: (Value.str ⟨⟨[61,55,50]⟩⟩ 653) :: (Value.str ⟨⟨[61,55,51]⟩⟩ 657) :: (Value.str ⟨⟨[61,55,52]⟩⟩ 661) :: (Value.str ⟨⟨[61,55,53]⟩⟩ 665) :: (Value.str ⟨⟨[61,55,54]⟩⟩ 669) :: (Value.str ⟨⟨[61,55,55]⟩⟩ 673) :: (Value.str ⟨⟨[61,55,56]⟩⟩ 677) :: (Value.str ⟨⟨[61,55,57]⟩⟩ 681) :: (Value.str ⟨⟨[61,55,65]⟩⟩ 685) :: (Value.str ⟨⟨[61,55,66]⟩⟩ 689) :: (Value.str ⟨⟨[61,55,67]⟩⟩ 693) :: (Value.str ⟨⟨[61,55,68]⟩⟩ 697) :: (Value.str ⟨⟨[61,55,69]⟩⟩ 701) :: (Value.str ⟨⟨[61,55,70]⟩⟩ 705) :: (Value.str ⟨⟨[61,56,48]⟩⟩ 709) :: (Value.str ⟨⟨[61,56,49]⟩⟩ 713) :: (Value.str ⟨⟨[61,56,50]⟩⟩ 717) :: (Value.str ⟨⟨[61,56,51]⟩⟩ 721) :: (Value.str ⟨⟨[61,56,52]⟩⟩ 725) :: (Value.str ⟨⟨[61,56,53]⟩⟩ 729) :: (Value.str ⟨⟨[61,56,54]⟩⟩ 733) :: (Value.str ⟨⟨[61,56,55]⟩⟩ 737) :: (Value.str ⟨⟨[61,56,56]⟩⟩ 741) :: (Value.str ⟨⟨[61,56,57]⟩⟩ 745) :: (Value.str ⟨⟨[61,56,65]⟩⟩ 749) :: (Value.str ⟨⟨[61,56,66]⟩⟩ 753) :: (Value.str ⟨⟨[61,56,67]⟩⟩ 757) :: (Value.str ⟨⟨[61,56,68]⟩⟩ 761) :: (Value.str ⟨⟨[61,56,69]⟩⟩ 765) :: (Value.str ⟨⟨[61,56,70]⟩⟩ 769) :: (Value.str ⟨⟨[61,57,48]⟩⟩ 773) :: (Value.str ⟨⟨[61,57,49]⟩⟩ 777) :: (Value.str ⟨⟨[61,57,50]⟩⟩ 781) :: (Value.str ⟨⟨[61,57,51]⟩⟩ 785) :: (Value.str ⟨⟨[61,57,52]⟩⟩ 789) :: (Value.str ⟨⟨[61,57,53]⟩⟩ 793) :: (Value.str ⟨⟨[61,57,54]⟩⟩ 797) :: (Value.str ⟨⟨[61,57,55]⟩⟩ 801) :: (Value.str ⟨⟨[61,57,56]⟩⟩ 805) :: (Value.str ⟨⟨[61,57,57]⟩⟩ 809) :: (Value.str ⟨⟨[61,57,65]⟩⟩ 813) :: (Value.str ⟨⟨[61,57,66]⟩⟩ 817) :: (Value.str ⟨⟨[61,57,67]⟩⟩ 821) :: (Value.str ⟨⟨[61,57,68]⟩⟩ 825) :: (Value.str ⟨⟨[61,57,69]⟩⟩ 829) :: (Value.str ⟨⟨[61,57,70]⟩⟩ 833) :: (Value.str ⟨⟨[61,65,48]⟩⟩ 837) :: (Value.str ⟨⟨[61,65,49]⟩⟩ 841) :: (Value.str ⟨⟨[61,65,50]⟩⟩ 845) :: (Value.str ⟨⟨[61,65,51]⟩⟩ 849) :: (Value.str ⟨⟨[61,65,52]⟩⟩ 853) :: (Value.str ⟨⟨[61,65,53]⟩⟩ 857) :: (Value.str ⟨⟨[61,65,54]⟩⟩ 861) :: (Value.str ⟨⟨[61,65,55]⟩⟩ 865) :: (Value.str ⟨⟨[61,65,56]⟩⟩ 869) :: (Value.str ⟨⟨[61,65,57]⟩⟩ 873) :: (Value.str ⟨⟨[61,65,65]⟩⟩ 877) :: (Value.str ⟨⟨[61,65,66]⟩⟩ 881) :: (Value.str ⟨⟨[61,65,67]⟩⟩ 885) :: (Value.str ⟨⟨[61,65,68]⟩⟩ 889) :: (Value.str ⟨⟨[61,65,69]⟩⟩ 893) :: (Value.str ⟨⟨[61,65,70]⟩⟩ 897) :: (Value.str ⟨⟨[61,66,48]⟩⟩ 901) :: (Value.str ⟨⟨[61,66,49]⟩⟩ 905) :: (Value.str ⟨⟨[61,66,50]⟩⟩ 909) :: (Value.str ⟨⟨[61,66,51]⟩⟩ 913) :: (Value.str ⟨⟨[61,66,52]⟩⟩ 917) :: (Value.str ⟨⟨[61,66,53]⟩⟩ 921) :: (Value.str ⟨⟨[61,66,54]⟩⟩ 925) :: (Value.str ⟨⟨[61,66,55]⟩⟩ 929) :: (Value.str ⟨⟨[61,66,56]⟩⟩ 933) :: (Value.str ⟨⟨[61,66,57]⟩⟩ 937) :: (Value.str ⟨⟨[61,66,65]⟩⟩ 941) :: (Value.str ⟨⟨[61,66,66]⟩⟩ 945) :: (Value.str ⟨⟨[61,66,67]⟩⟩ 949) :: (Value.str ⟨⟨[61,66,68]⟩⟩ 953) :: (Value.str ⟨⟨[61,66,69]⟩⟩ 957) :: (Value.str ⟨⟨[61,66,70]⟩⟩ 961) :: (Value.str ⟨⟨[61,67,48]⟩⟩ 965) :: (Value.str ⟨⟨[61,67,49]⟩⟩ 969) :: (Value.str ⟨⟨[61,67,50]⟩⟩ 973) :: (Value.str ⟨⟨[61,67,51]⟩⟩ 977) :: (Value.str ⟨⟨[61,67,52]⟩⟩ 981) :: (Value.str ⟨⟨[61,67,53]⟩⟩ 985) :: (Value.str ⟨⟨[61,67,54]⟩⟩ 989) :: (Value.str ⟨⟨[61,67,55]⟩⟩ 993) :: (Value.str ⟨⟨[61,67,56]⟩⟩ 997) :: (Value.str ⟨⟨[61,67,57]⟩⟩ 1001) :: (Value.str ⟨⟨[61,67,65]⟩⟩ 1005) :: (Value.str ⟨⟨[61,67,66]⟩⟩ 1009) :: (Value.str ⟨⟨[61,67,67]⟩⟩ 1013) :: (Value.str ⟨⟨[61,67,68]⟩⟩ 1017) :: (Value.str ⟨⟨[61,67,69]⟩⟩ 1021) :: (Value.str ⟨⟨[61,67,70]⟩⟩ 1025) :: (Value.str ⟨⟨[61,68,48]⟩⟩ 1029) :: (Value.str ⟨⟨[61,68,49]⟩⟩ 1033) :: (Value.str ⟨⟨[61,68,50]⟩⟩ 1037) :: (Value.str ⟨⟨[61,68,51]⟩⟩ 1041) :: (Value.str ⟨⟨[61,68,52]⟩⟩ 1045) :: (Value.str ⟨⟨[61,68,53]⟩⟩ 1049) :: (Value.str ⟨⟨[61,68,54]⟩⟩ 1053) :: (Value.str ⟨⟨[61,68,55]⟩⟩ 1057) :: (Value.str ⟨⟨[61,68,56]⟩⟩ 1061) :: (Value.str ⟨⟨[61,68,57]⟩⟩ 1065) :: (Value.str ⟨⟨[61,68,65]⟩⟩ 1069) :: (Value.str ⟨⟨[61,68,66]⟩⟩ 1073) :: (Value.str ⟨⟨[61,68,67]⟩⟩ 1077) :: (Value.str ⟨⟨[61,68,68]⟩⟩ 1081) :: (Value.str ⟨⟨[61,68,69]⟩⟩ 1085) :: (Value.str ⟨⟨[61,68,70]⟩⟩ 1089) :: (Value.str ⟨⟨[61,69,48]⟩⟩ 1093) :: (Value.str ⟨⟨[61,69,49]⟩⟩ 1097) :: (Value.str ⟨⟨[61,69,50]⟩⟩ 1101) :: (Value.str ⟨⟨[61,69,51]⟩⟩ 1105) :: (Value.str ⟨⟨[61,69,52]⟩⟩ 1109) :: (Value.str ⟨⟨[61,69,53]⟩⟩ 1113) :: (Value.str ⟨⟨[61,69,54]⟩⟩ 1117) :: (Value.str ⟨⟨[61,69,55]⟩⟩ 1121) :: (Value.str ⟨⟨[61,69,56]⟩⟩ 1125) :: (Value.str ⟨⟨[61,69,57]⟩⟩ 1129) :: (Value.str ⟨⟨[61,69,65]⟩⟩ 1133) :: (Value.str ⟨⟨[61,69,66]⟩⟩ 1137) :: (Value.str ⟨⟨[61,69,67]⟩⟩ 1141) :: (Value.str ⟨⟨[61,69,68]⟩⟩ 1145) :: (Value.str ⟨⟨[61,69,69]⟩⟩ 1149) :: (Value.str ⟨⟨[61,69,70]⟩⟩ 1153) :: (Value.str ⟨⟨[61,70,48]⟩⟩ 1157) :: (Value.str ⟨⟨[61,70,49]⟩⟩ 1161) :: (Value.str ⟨⟨[61,70,50]⟩⟩ 1165) :: (Value.str ⟨⟨[61,70,51]⟩⟩ 1169) :: (Value.str ⟨⟨[61,70,52]⟩⟩ 1173) :: (Value.str ⟨⟨[61,70,53]⟩⟩ 1177) :: (Value.str ⟨⟨[61,70,54]⟩⟩ 1181) :: (Value.str ⟨⟨[61,70,55]⟩⟩ 1185) :: (Value.str ⟨⟨[61,70,56]⟩⟩ 1189) :: (Value.str ⟨⟨[61,70,57]⟩⟩ 1193) :: (Value.str ⟨⟨[61,70,65]⟩⟩ 1197) :: (Value.str ⟨⟨[61,70,66]⟩⟩ 1201) :: (Value.str ⟨⟨[61,70,67]⟩⟩ 1205) :: (Value.str ⟨⟨[61,70,68]⟩⟩ 1209) :: (Value.str ⟨⟨[61,70,69]⟩⟩ 1213) :: (Value.str ⟨⟨[61,70,70]⟩⟩ 1217) :: [])) 256) (List.toArray []))
noncomputable def o_63 (P : Params) : Obj := (Obj.mk (Value.type PySem.W.SL.s15992201931430999065x14) Option.none (Data.fields (List.toArray [(Value.int 256 0), (Value.int 0 0), (Value.int 1 0)])) (List.toArray []))
noncomputable def o_67 (P : Params) : Obj := (Obj.mk (Value.type PySem.W.SL.s5991306692159431302x13) Option.none (Data.fields (List.toArray [(Value.ref 19), Value.none, Value.none, Value.none, (Value.bool Bool.false), Value.none])) (List.toArray []))
noncomputable def o_65 (P : Params) : Obj := (Obj.mk (Value.type PySem.W.SL.s14018661285674007319x4) Option.none (Data.dict (List.toArray []) 2) (List.toArray []))
noncomputable def tree_67 (P : Params) : BT := (BT.node (o_42 P) (BT.node (o_43 P) (BT.node (o_61 P) (BT.node (o_49 P) (BT.node (o_62 P) BT.nil BT.nil) BT.nil) (BT.node (o_53 P) (BT.node (o_66 P) BT.nil BT.nil) BT.nil)) (BT.node (o_47 P) (BT.node (o_51 P) (BT.node (o_64 P) BT.nil BT.nil) BT.nil) (BT.node (o_55 P) BT.nil BT.nil))) (BT.node (o_44 P) (BT.node (o_46 P) (BT.node (o_50 P) (BT.node (o_63 P) BT.nil BT.nil) BT.nil) (BT.node (o_54 P) (BT.node (o_67 P) BT.nil BT.nil) BT.nil)) (BT.node (o_48 P) (BT.node (o_52 P) (BT.node (o_65 P) BT.nil BT.nil) BT.nil) (BT.node (o_56 P) BT.nil BT.nil))))
noncomputable def o_380 (P : Params) : Obj := (Obj.mk (Value.type PySem.W.SL.s14018661285674007319x4) Option.none (Data.dict (List.toArray [(DictEntry.mk (PyData.keyHash P ⟨⟨[95,95,110,97,109,101,95,95]⟩⟩) (Value.str ⟨⟨[95,95,110,97,109,101,95,95]⟩⟩ 165) (Value.str ⟨⟨[99,112,121,51,49,51,46,101,109,97,105,108,46,113,117,111,112,114,105,109,105,109,101]⟩⟩ 1234)), (DictEntry.mk (PyData.keyHash P ⟨⟨[95,95,100,111,99,95,95]⟩⟩) (Value.str ⟨⟨[95,95,100,111,99,95,95]⟩⟩ 166) Value.none), (DictEntry.mk (PyData.keyHash P ⟨⟨[95,95,112,97,99,107,97,103,101,95,95]⟩⟩) (Value.str ⟨⟨[95,95,112,97,99,107,97,103,101,95,95]⟩⟩ 167) Value.none), (DictEntry.mk (PyData.keyHash P ⟨⟨[95,95,108,111,97,100,101,114,95,95]⟩⟩) (Value.str ⟨⟨[95,95,108,111,97,100,101,114,95,95]⟩⟩ 168) (Value.builtin PySem.W.SL.s7097527257260152453x26)), (DictEntry.mk (PyData.keyHash P ⟨⟨[95,95,115,112,101,99,95,95]⟩⟩) (Value.str ⟨⟨[95,95,115,112,101,99,95,95]⟩⟩ 169) Value.none), (DictEntry.mk (PyData.keyHash P ⟨⟨[95,95,97,110,110,111,116,97,116,105,111,110,115,95,95]⟩⟩) (Value.str ⟨⟨[95,95,97,110,110,111,116,97,116,105,111,110,115,95,95]⟩⟩ 170) (Value.ref 6)), (DictEntry.mk (PyData.keyHash P ⟨⟨[95,95,98,117,105,108,116,105,110,115,95,95]⟩⟩) (Value.str ⟨⟨[95,95,98,117,105,108,116,105,110,115,95,95]⟩⟩ 171) (Value.ref 4)), (DictEntry.mk (PyData.keyHash P ⟨⟨[95,95,102,105,108,101,95,95]⟩⟩) (Value.str ⟨⟨[95,95,102,105,108,101,95,95]⟩⟩ 173) (Value.str ⟨⟨[47,99,108,97,105,109,47,99,117,116,46,112,121]⟩⟩ 172)), (DictEntry.mk (PyData.keyHash P ⟨⟨[95,95,99,97,99,104,101,100,95,95]⟩⟩) (Value.str ⟨⟨[95,95,99,97,99,104,101,100,95,95]⟩⟩ 174) Value.none), (DictEntry.mk (PyData.keyHash P ⟨⟨[67,82,76,70]⟩⟩) (Value.str ⟨⟨[67,82,76,70]⟩⟩ 188) (Value.str ⟨⟨[13,10]⟩⟩ 187)), (DictEntry.mk (PyData.keyHash P ⟨⟨[78,76]⟩⟩) (Value.str ⟨⟨[78,76]⟩⟩ 190) (Value.str ⟨⟨[10]⟩⟩ 189)), (DictEntry.mk (PyData.keyHash P ⟨⟨[95,81,85,79,80,82,73,95,77,65,80]⟩⟩) (Value.str ⟨⟨[95,81,85,79,80,82,73,95,77,65,80]⟩⟩ 1218) (Value.ref 17)), (DictEntry.mk (PyData.keyHash P ⟨⟨[95,81,85,79,80,82,73,95,72,69,65,68,69,82,95,77,65,80]⟩⟩) (Value.str ⟨⟨[95,81,85,79,80,82,73,95,72,69,65,68,69,82,95,77,65,80]⟩⟩ 1219) (Value.ref 22)), (DictEntry.mk (PyData.keyHash P ⟨⟨[95,81,85,79,80,82,73,95,66,79,68,89,95,77,65,80]⟩⟩) (Value.str ⟨⟨[95,81,85,79,80,82,73,95,66,79,68,89,95,77,65,80]⟩⟩ 1220) (Value.ref 24)), (DictEntry.mk (PyData.keyHash P ⟨⟨[97,115,99,105,105,95,108,111,119,101,114,99,97,115,101]⟩⟩) (Value.str ⟨⟨[97,115,99,105,105,95,108,111,119,101,114,99,97,115,101]⟩⟩ 1222) (Value.str ⟨⟨[97,98,99,100,101,102,103,104,105,106,107,108,109,110,111,112,113,114,115,116,117,118,119,120,121,122]⟩⟩ 1221)), (DictEntry.mk (PyData.keyHash P ⟨⟨[97,115,99,105,105,95,117,112,112,101,114,99,97,115,101]⟩⟩) (Value.str ⟨⟨[97,115,99,105,105,95,117,112,112,101,114,99,97,115,101]⟩⟩ 1224) (Value.str ⟨⟨[65,66,67,68,69,70,71,72,73,74,75,76,77,78,79,80,81,82,83,84,85,86,87,88,89,90]⟩⟩ 1223)), (DictEntry.mk (PyData.keyHash P ⟨⟨[97,115,99,105,105,95,108,101,116,116,101,114,115]⟩⟩) (Value.str ⟨⟨[97,115,99,105,105,95,108,101,116,116,101,114,115]⟩⟩ 1226) (Value.str ⟨⟨[97,98,99,100,101,102,103,104,105,106,107,108,109,110,111,112,113,114,115,116,117,118,119,120,121,122,65,66,67,68,69,70,71,72,73,74,75,76,77,78,79,80,81,82,83,84,85,86,87,88,89,90]⟩⟩ 1225)), (DictEntry.mk (PyData.keyHash P ⟨⟨[100,105,103,105,116,115]⟩⟩) (Value.str ⟨⟨[100,105,103,105,116,115]⟩⟩ 1228) (Value.str ⟨⟨[48,49,50,51,52,53,54,55,56,57]⟩⟩ 1227)), (DictEntry.mk (PyData.keyHash P ⟨⟨[104,101,120,100,105,103,105,116,115]⟩⟩) (Value.str ⟨⟨[104,101,120,100,105,103,105,116,115]⟩⟩ 1233) (Value.str ⟨⟨[48,49,50,51,52,53,54,55,56,57,97,98,99,100,101,102,65,66,67,68,69,70]⟩⟩ 1232)), (DictEntry.mk (PyData.keyHash P ⟨⟨[99]⟩⟩) (Value.str ⟨⟨[99]⟩⟩ 1244) (Value.int 9 1730))]) 20) (List.toArray []))
noncomputable def o_363 (P : Params) : Obj := (Obj.mk (Value.type PySem.W.SL.s4674234679698826739x5) Option.none (Data.fields (List.toArray [Value.none, Value.none, Value.none])) (List.toArray []))
noncomputable def o_369 (P : Params) : Obj := (Obj.mk (Value.type PySem.W.SL.s5991306692159431302x13) Option.none (Data.fields (List.toArray [(Value.ref 26), Value.none, Value.none, Value.none, (Value.bool Bool.false), Value.none])) (List.toArray []))
noncomputable def o_367 (P : Params) : Obj := (Obj.mk (Value.type PySem.W.SL.s1378417608194177226x14) Option.none (Data.fields (List.toArray [Value.none, (Value.int 67 0)])) (List.toArray []))
noncomputable def o_361 (P : Params) : Obj := (Obj.mk (Value.type PySem.W.SL.s4674234679698826739x5) Option.none (Data.fields (List.toArray [Value.none, Value.none, Value.none])) (List.toArray []))
noncomputable def o_383 (P : Params) : Obj := (Obj.mk (Value.type PySem.W.SL.s2766695959194262286x5) Option.none (Data.seq (List.toArray []) 0) (List.toArray []))
noncomputable def o_381 (P : Params) : Obj := (Obj.mk (Value.type PySem.W.SL.s9222952809800978799x4) Option.none (Data.seq (List.toArray ((Value.str ⟨⟨[61,48,48]⟩⟩ 197) :: (Value.str ⟨⟨[61,48,49]⟩⟩ 201) :: (Value.str ⟨⟨[61,48,50]⟩⟩ 205) :: (Value.str ⟨⟨[61,48,51]⟩⟩ 209) :: (Value.str ⟨⟨[61,48,52]⟩⟩ 213) :: (Value.str ⟨⟨[61,48,53]⟩⟩ 217) :: (Value.str ⟨⟨[61,48,54]⟩⟩ 221) :: (Value.str ⟨⟨[61,48,55]⟩⟩ 225) :: (Value.str ⟨⟨[61,48,56]⟩⟩ 229) :: (Value.str ⟨⟨[9]⟩⟩ 1732) :: (Value.str ⟨⟨[61,48,65]⟩⟩ 237) :: (Value.str ⟨⟨[61,48,66]⟩⟩ 241) :: (Value.str ⟨⟨[61,48,67]⟩⟩ 245) :: (Value.str ⟨⟨[61,48,68]⟩⟩ 249) :: (Value.str ⟨⟨[61,48,69]⟩⟩ 253) :: (Value.str ⟨⟨[61,48,70]⟩⟩ 257) :: (Value.str ⟨⟨[61,49,48]⟩⟩ 261) :: (Value.str ⟨⟨[61,49,49]⟩⟩ 265) :: (Value.str ⟨⟨[61,49,50]⟩⟩ 269) :: (Value.str ⟨⟨[61,49,51]⟩⟩ 273) :: (Value.str ⟨⟨[61,49,52]⟩⟩ 277) :: (Value.str ⟨⟨[61,49,53]⟩⟩ 281) :: (Value.str ⟨⟨[61,49,54]⟩⟩ 285) :: (Value.str ⟨⟨[61,49,55]⟩⟩ 289) :: (Value.str ⟨⟨[61,49,56]⟩⟩ 293) :: (Value.str ⟨⟨[61,49,57]⟩⟩ 297) :: (Value.str ⟨⟨[61,49,65]⟩⟩ 301) :: (Value.str ⟨⟨[61,49,66]⟩⟩ 305) :: (Value.str ⟨⟨[61,49,67]⟩⟩ 309) :: (Value.str ⟨⟨[61,49,68]⟩⟩ 313) :: (Value.str ⟨⟨[61,49,69]⟩⟩ 317) :: (Value.str ⟨⟨[61,49,70]⟩⟩ 321) :: (Value.str ⟨⟨[32]⟩⟩ 1450) :: (Value.str ⟨⟨[33]⟩⟩ 1453) :: (Value.str ⟨⟨[34]⟩⟩ 1456) :: (Value.str ⟨⟨[35]⟩⟩ 1459) :: (Value.str ⟨⟨[36]⟩⟩ 1462) :: (Value.str ⟨⟨[37]⟩⟩ 1465) :: (Value.str ⟨⟨[38]⟩⟩ 1468) :: (Value.str ⟨⟨[39]⟩⟩ 1471) :: (Value.str ⟨⟨[40]⟩⟩ 1474) :: (Value.str ⟨⟨[41]⟩⟩ 1477) :: (Value.str ⟨⟨[42]⟩⟩ 1480) :: (Value.str ⟨⟨[43]⟩⟩ 1483) :: (Value.str ⟨⟨[44]⟩⟩ 1486) :: (Value.str ⟨⟨[45]⟩⟩ 1489) :: (Value.str ⟨⟨[46]⟩⟩ 1492) :: (Value.str ⟨⟨[47]⟩⟩ 1495) :: (Value.str ⟨⟨[48]⟩⟩ 1498) :: (Value.str ⟨⟨[49]⟩⟩ 1501) :: (Value.str ⟨⟨[50]⟩⟩ 1504) :: (Value.str ⟨⟨[51]⟩⟩ 1507) :: (Value.str ⟨⟨[52]⟩⟩ 1510) :: (Value.str ⟨⟨[53]⟩⟩ 1513) :: (Value.str ⟨⟨[54]⟩⟩ 1516) :: (Value.str ⟨⟨[55]⟩⟩ 1519) :: (Value.str ⟨⟨[56]⟩⟩ 1522) :: (Value.str ⟨⟨[57]⟩⟩ 1525) :: (Value.str ⟨⟨[58]⟩⟩ 1528) :: (Value.str ⟨⟨[59]⟩⟩ 1531) :: (Value.str ⟨⟨[60]⟩⟩ 1534) :: (Value.str ⟨⟨[61,51,68]⟩⟩ 441) :: (Value.str ⟨⟨[62]⟩⟩ 1537) :: (Value.str ⟨⟨[63]⟩⟩ 1540) :: (Value.str ⟨⟨[64]⟩⟩ 1543) :: (Value.str ⟨⟨[65]⟩⟩ 1546) :: (Value.str ⟨⟨[66]⟩⟩ 1549) :: (Value.str ⟨⟨[67]⟩⟩ 1552) :: (Value.str ⟨⟨[68]⟩⟩ 1555) :: (Value.str ⟨⟨[69]⟩⟩ 1558) :: (Value.str ⟨⟨[70]⟩⟩ 1561) :: (Value.str ⟨⟨[71]⟩⟩ 1564) :: (Value.str ⟨⟨[72]⟩⟩ 1567) :: (Value.str ⟨⟨[73]⟩⟩ 1570) :: (Value.str ⟨⟨[74]⟩⟩ 1573) :: (Value.str ⟨⟨[75]⟩⟩ 1576) :: (Value.str ⟨⟨[76]⟩⟩ 1579) :: (Value.str ⟨⟨[77]⟩⟩ 1582) :: (Value.str ⟨⟨[78]⟩⟩ 1585) :: (Value.str ⟨⟨[79]⟩⟩ 1588) :: (Value.str ⟨⟨[80]⟩⟩ 1591) :: (Value.str ⟨⟨[81]⟩⟩ 1594) :: (Value.str ⟨⟨[82]⟩⟩ 1597) :: (Value.str ⟨⟨[83]⟩⟩ 1600) :: (Value.str ⟨⟨[84]⟩⟩ 1603) :: (Value.str ⟨⟨[85]⟩⟩ 1606) :: (Value.str ⟨⟨[86]⟩⟩ 1609) :: (Value.str ⟨⟨[87]⟩⟩ 1612) :: (Value.str ⟨⟨[88]⟩⟩ 1615) :: (Value.str ⟨⟨[89]⟩⟩ 1618) :: (Value.str ⟨⟨[90]⟩⟩ 1621) :: (Value.str ⟨⟨[91]⟩⟩ 1624) :: (Value.str ⟨⟨[92]⟩⟩ 1627) :: (Value.str ⟨⟨[93]⟩⟩ 1630) :: (Value.str ⟨⟨[94]⟩⟩ 1633) :: (Value.str ⟨⟨[95]⟩⟩ 1636) :: (Value.str ⟨⟨[96]⟩⟩ 1639) :: (Value.str ⟨⟨[97]⟩⟩ 1642) :: (Value.str ⟨⟨[98]⟩⟩ 1645) :: (Value.str ⟨⟨[99]⟩⟩ 1648) :: (Value.str ⟨⟨[100]⟩⟩ 1651) :: (Value.str ⟨⟨[101]⟩⟩ 1654) :: (Value.str ⟨⟨[102]⟩⟩ 1657) :: (Value.str ⟨⟨[103]⟩⟩ 1660) :: (Value.str ⟨⟨[104]⟩⟩ 1663) :: (Value.str ⟨⟨[105]⟩⟩ 1666) :: (Value.str ⟨⟨[106]⟩⟩ 1669) :: (Value.str ⟨⟨[107]⟩⟩ 1672) :: (Value.str ⟨⟨[108]⟩⟩ 1675) :: (Value.str ⟨⟨[109]⟩⟩ 1678) :: (Value.str ⟨⟨[110]⟩⟩ 1681) :: (Value.str ⟨⟨[111]⟩⟩ 1684) :: (Value.str ⟨⟨[112]⟩⟩ 1687) :: (Value.str ⟨⟨[113]⟩⟩ 1690) :: (Value.str ⟨⟨[114]⟩⟩ 1693) :: (Value.str ⟨⟨[115]⟩⟩ 1696) :: (Value.str ⟨⟨[116]⟩⟩ 1699) :: (Value.str ⟨⟨[117]⟩⟩ 1702) :: (Value.str ⟨⟨[118]⟩⟩ 1705) :: (Value.str ⟨⟨[119]⟩⟩ 1708) :: (Value.str ⟨⟨[120]⟩⟩ 1711) :: (Value.str ⟨⟨[121]⟩⟩ 1714) :: (Value.str ⟨⟨[122]⟩⟩ 1717) :: (Value.str ⟨⟨[123]⟩⟩ 1720) :: (Value.str ⟨⟨[124]⟩⟩ 1723) :: (Value.str ⟨⟨[125]⟩⟩ 1726) :: (Value.str ⟨⟨[126]⟩⟩ 1729) :: (Value.str ⟨⟨[61,55,70]⟩⟩ 705) :: (Value.str ⟨⟨[61,56,48]⟩⟩ 709) :: (Value.str ⟨⟨[61,56,49]⟩⟩ 713) :: (Value.str ⟨⟨[61,56,50]⟩⟩ 717) :: (Value.str ⟨⟨[61,56,51]⟩⟩ 721) :: (Value.str ⟨⟨[61,56,52]⟩⟩ 725) :: (Value.str ⟨⟨[61,56,53]⟩⟩ 729) :: (Value.str ⟨⟨[61,56,54]⟩⟩ 733) :: (Value.str ⟨⟨[61,56,55]⟩⟩ 737) :: (Value.str ⟨⟨[61,56,56]⟩⟩ 741) :: (Value.str ⟨⟨[61,56,57]⟩⟩ 745) :: (Value.str ⟨⟨[61,56,65]⟩⟩ 749) :: (Value.str ⟨⟨[61,56,66]⟩⟩ 753) :: (Value.str ⟨⟨[61,56,67]⟩⟩ 757) :: (Value.str ⟨⟨[61,56,68]⟩⟩ 761) :: (Value.str ⟨⟨[61,56,69]⟩⟩ 765) :: (Value.str ⟨⟨[61,56,70]⟩⟩ 769) :: (Value.str ⟨⟨[61,57,48]⟩⟩ 773) :: (Value.str ⟨⟨[61,57,49]⟩⟩ 777) :: (Value.str ⟨⟨[61,57,50]⟩⟩ 781) :: (Value.str ⟨⟨[61,57,51]⟩⟩ 785) :: (Value.str ⟨⟨[61,57,52]⟩⟩ 789) :: (Value.str ⟨⟨[61,57,53]⟩⟩ 793) :: (Value.str ⟨⟨[61,57,54]⟩⟩ 797) :: (Value.str ⟨⟨[61,57,55]⟩⟩ 801) :: (Value.str ⟨⟨[61,57,56]⟩⟩ 805) :: (Value.str ⟨⟨[61,57,57]⟩⟩ 809) :: (Value.str ⟨⟨[61,57,65]⟩⟩ 813) :: (Value.str ⟨⟨[61,57,66]⟩⟩ 817) :: (Value.str ⟨⟨[61,57,67]⟩⟩ 821) :: (Value.str ⟨⟨[61,57,68]⟩⟩ 825) :: (Value.str ⟨⟨[61,57,69]⟩⟩ 829) :: (Value.str ⟨⟨[61,57,70]⟩⟩ 833) :: (Value.str ⟨⟨[61,65,48]⟩⟩ 837) :: (Value.str ⟨⟨[61,65,49]⟩⟩ 841) :: (Value.str ⟨⟨[61,65,50]⟩⟩ 845) :: (Value.str ⟨⟨[61,65,51]⟩⟩ 849) :: (Value.str ⟨⟨[61,65,52]⟩⟩ 853) :: (Value.str ⟨⟨[61,65,53]⟩⟩ 857) :: (Value.str ⟨⟨[61,65,54]⟩⟩ 861) :: (Value.str ⟨⟨[61,65,55]⟩⟩ 865) :: (Value.str ⟨⟨[61,65,56]⟩⟩ 869) :: (Value.str ⟨⟨[61,65,57]⟩⟩ 873) :: (Value.str ⟨⟨[61,65,65]⟩⟩ 877) :: (Value.str ⟨⟨[61,65,66]⟩⟩ 881) :: (Value.str ⟨⟨[61,65,67]⟩⟩ 885) :: (Value.str ⟨⟨[61,65,68]⟩⟩ 889) :: (Value.str ⟨⟨[61,65,69]⟩⟩ 893) :: (Value.str ⟨⟨[61,65,70]⟩⟩ 897) :: (Value.str ⟨⟨[61,66,48]⟩⟩ 901) :: (Value.str ⟨⟨[61,66,49]⟩⟩ 905) :: (Value.str ⟨⟨[61,66,50]⟩⟩ 909) :: (Value.str ⟨⟨[61,66,51]⟩⟩ 913) :: (Value.str ⟨⟨[61,66,52]⟩⟩ 917) :: (Value.str ⟨⟨[61,66,53]⟩⟩ 921) :: (Value.str ⟨⟨[61,66,54]⟩⟩ 925) :: (Value.str ⟨⟨[61,66,55]⟩⟩ 929) :: (Value.str ⟨⟨[61,66,56]⟩⟩ 933) :: (Value.str ⟨⟨[61,66,57]⟩⟩ 937) :: (Value.str ⟨⟨[61,66,65]⟩⟩ 941) :: (Value.str ⟨⟨[61,66,66]⟩⟩ 945) :: (Value.str ⟨⟨[61,66,67]⟩⟩ 949) :: (Value.str ⟨⟨[61,66,68]⟩⟩ 953) :: (Value.str ⟨⟨[61,66,69]⟩⟩ 957) :: (Value.str ⟨⟨[61,66,70]⟩⟩ 961) :: (Value.str ⟨⟨[61,67,48]⟩⟩ 965) :: (Value.str ⟨⟨[61,67,49]⟩⟩ 969) :: (Value.str ⟨⟨[61,67,50]⟩⟩ 973) :: (Value.str ⟨⟨[61,67,51]⟩⟩ 977) :: (Value.str ⟨⟨[61,67,52]⟩⟩ 981) :: (Value.str ⟨⟨[61,67,53]⟩⟩ 985) :: (Value.str ⟨⟨[61,67,54]⟩⟩ 989) :: (Value.str ⟨⟨[61,67,55]⟩⟩ 993) :: (Value.str ⟨⟨[61,67,56]⟩⟩ 997) :: (Value.str ⟨⟨[61,67,57]⟩⟩ 1001) :: (Value.str ⟨⟨[61,67,65]⟩⟩ 1005) :: (Value.str ⟨⟨[61,67,66]⟩⟩ 1009) :: (Value.str ⟨⟨[61,67,67]⟩⟩ 1013) :: (Value.str ⟨⟨[61,67,68]⟩⟩ 1017) :: (Value.str ⟨⟨[61,67,69]⟩⟩ 1021) :: (Value.str ⟨⟨[61,67,70]⟩⟩ 1025) :: (Value.str ⟨⟨[61,68,48]⟩⟩ 1029) :: (Value.str ⟨⟨[61,68,49]⟩⟩ 1033) :: (Value.str ⟨⟨[61,68,50]⟩⟩ 1037) :: (Value.str ⟨⟨[61,68,51]⟩⟩ 1041) :: (Value.str ⟨⟨[61,68,52]⟩⟩ 1045) :: (Value.str ⟨⟨[61,68,53]⟩⟩ 1049) :: (Value.str ⟨⟨[61,68,54]⟩⟩ 1053) :: (Value.str ⟨⟨[61,68,55]⟩⟩ 1057) :: (Value.str ⟨⟨[61,68,56]⟩⟩ 1061) :: (Value.str ⟨⟨[61,68,57]⟩⟩ 1065) :: (Value.str ⟨⟨[61,68,65]⟩⟩ 1069) :: (Value.str ⟨⟨[61,68,66]⟩⟩ 1073) :: (Value.str ⟨⟨[61,68,67]⟩⟩ 1077) :: (Value.str ⟨⟨[61,68,68]⟩⟩ 1081) :: (Value.str ⟨⟨[61,68,69]⟩⟩ 1085) :: (Value.str ⟨⟨[61,68,70]⟩⟩ 1089) :: (Value.str ⟨⟨[61,69,48]⟩⟩ 1093) :: (Value.str ⟨⟨[61,69,49]⟩⟩ 1097) :: (Value.str ⟨⟨[61,69,50]⟩⟩ 1101) :: (Value.str ⟨⟨[61,69,51]⟩⟩ 1105) :: (Value.str ⟨⟨[61,69,52]⟩⟩ 1109) :: (Value.str ⟨⟨[61,69,53]⟩⟩ 1113) :: (Value.str ⟨⟨[61,69,54]⟩⟩ 1117) :: (Value.str ⟨⟨[61,69,55]⟩⟩ 1121) :: (Value.str ⟨⟨[61,69,56]⟩⟩ 1125) :: (Value.str ⟨⟨[61,69,57]⟩⟩ 1129) :: (Value.str ⟨⟨[61,69,65]⟩⟩ 1133) :: (Value.str ⟨⟨[61,69,66]⟩⟩ 1137) :: (Value.str ⟨⟨[61,69,67]⟩⟩ 1141) :: (Value.str ⟨⟨[61,69,68]⟩⟩ 1145) :: (Value.str ⟨⟨[61,69,69]⟩⟩ 1149) :: (Value.str ⟨⟨[61,69,70]⟩⟩ 1153) :: (Value.str ⟨⟨[61,70,48]⟩⟩ 1157) :: (Value.str ⟨⟨[61,70,49]⟩⟩ 1161) :: (Value.str ⟨⟨[61,70,50]⟩⟩ 1165) :: (Value.str ⟨⟨[61,70,51]⟩⟩ 1169) :: (Value.str ⟨⟨[61,70,52]⟩⟩ 1173) :: (Value.str ⟨⟨[61,70,53]⟩⟩ 1177) :: (Value.str ⟨⟨[61,70,54]⟩⟩ 1181) :: (Value.str ⟨⟨[61,70,55]⟩⟩ 1185) :: (Value.str ⟨⟨[61,70,56]⟩⟩ 1189) :: (Value.str ⟨⟨[61,70,57]⟩⟩ 1193) :: (Value.str ⟨⟨[61,70,65]⟩⟩ 1197) :: (Value.str ⟨⟨[61,70,66]⟩⟩ 1201) :: (Value.str ⟨⟨[61,70,67]⟩⟩ 1205) :: (Value.str ⟨⟨[61,70,68]⟩⟩ 1209) :: (Value.str ⟨⟨[61,70,69]⟩⟩ 1213) :: (Value.str ⟨⟨[61,70,70]⟩⟩ 1217) :: [])) 0) (List.toArray []))
noncomputable def o_382 (P : Params) : Obj := (Obj.mk (Value.type PySem.W.SL.s1378417608194177226x14) Option.none (Data.fields (List.toArray [Value.none, (Value.int 95 0)])) (List.toArray []))
noncomputable def o_368 (P : Params) : Obj := (Obj.mk (Value.type PySem.W.SL.s2766695959194262286x5) Option.none (Data.seq (List.toArray []) 0) (List.toArray []))
noncomputable def o_378 (P : Params) : Obj := (Obj.mk (Value.type PySem.W.SL.s9222952809800978799x4) Option.none (Data.seq (List.toArray ((Value.str ⟨⟨[61,48,48]⟩⟩ 197) :: (Value.str ⟨⟨[61,48,49]⟩⟩ 201) :: (Value.str ⟨⟨[61,48,50]⟩⟩ 205) :: (Value.str ⟨⟨[61,48,51]⟩⟩ 209) :: (Value.str ⟨⟨[61,48,52]⟩⟩ 213) :: (Value.str ⟨⟨[61,48,53]⟩⟩ 217) :: (Value.str ⟨⟨[61,48,54]⟩⟩ 221) :: (Value.str ⟨⟨[61,48,55]⟩⟩ 225) :: (Value.str ⟨⟨[61,48,56]⟩⟩ 229) :: (Value.str ⟨⟨[61,48,57]⟩⟩ 233) :: (Value.str ⟨⟨[61,48,65]⟩⟩ 237) :: (Value.str ⟨⟨[61,48,66]⟩⟩ 241) :: (Value.str ⟨⟨[61,48,67]⟩⟩ 245) :: (Value.str ⟨⟨[61,48,68]⟩⟩ 249) :: (Value.str ⟨⟨[61,48,69]⟩⟩ 253) :: (Value.str ⟨⟨[61,48,70]⟩⟩ 257) :: (Value.str ⟨⟨[61,49,48]⟩⟩ 261) :: (Value.str ⟨⟨[61,49,49]⟩⟩ 265) :: (Value.str ⟨⟨[61,49,50]⟩⟩ 269) :: (Value.str ⟨⟨[61,49,51]⟩⟩ 273) :: (Value.str ⟨⟨[61,49,52]⟩⟩ 277) :: (Value.str ⟨⟨[61,49,53]⟩⟩ 281) :: (Value.str ⟨⟨[61,49,54]⟩⟩ 285) :: (Value.str ⟨⟨[61,49,55]⟩⟩ 289) :: (Value.str ⟨⟨[61,49,56]⟩⟩ 293) :: (Value.str ⟨⟨[61,49,57]⟩⟩ 297) :: (Value.str ⟨⟨[61,49,65]⟩⟩ 301) :: (Value.str ⟨⟨[61,49,66]⟩⟩ 305) :: (Value.str ⟨⟨[61,49,67]⟩⟩ 309) :: (Value.str ⟨⟨[61,49,68]⟩⟩ 313) :: (Value.str ⟨⟨[61,49,69]⟩⟩ 317) :: (Value.str ⟨⟨[61,49,70]⟩⟩ 321) :: (Value.str ⟨⟨[95]⟩⟩ 1444) :: (Value.str ⟨⟨[33]⟩⟩ 1248) :: (Value.str ⟨⟨[61,50,50]⟩⟩ 333) :: (Value.str ⟨⟨[61,50,51]⟩⟩ 337) :: (Value.str ⟨⟨[61,50,52]⟩⟩ 341) :: (Value.str ⟨⟨[61,50,53]⟩⟩ 345) :: (Value.str ⟨⟨[61,50,54]⟩⟩ 349) :: (Value.str ⟨⟨[61,50,55]⟩⟩ 353) :: (Value.str ⟨⟨[61,50,56]⟩⟩ 357) :: (Value.str ⟨⟨[61,50,57]⟩⟩ 361) :: (Value.str ⟨⟨[42]⟩⟩ 1251) :: (Value.str ⟨⟨[43]⟩⟩ 1254) :: (Value.str ⟨⟨[61,50,67]⟩⟩ 373) :: (Value.str ⟨⟨[45]⟩⟩ 1245) :: (Value.str ⟨⟨[61,50,69]⟩⟩ 381) :: (Value.str ⟨⟨[47]⟩⟩ 1257) :: (Value.str ⟨⟨[48]⟩⟩ 1416) :: (Value.str ⟨⟨[49]⟩⟩ 1419) :: (Value.str ⟨⟨[50]⟩⟩ 1422) :: (Value.str ⟨⟨[51]⟩⟩ 1425) :: (Value.str ⟨⟨[52]⟩⟩ 1428) :: (Value.str ⟨⟨[53]⟩⟩ 1431) :: (Value.str ⟨⟨[54]⟩⟩ 1434) :: (Value.str ⟨⟨[55]⟩⟩ 1437) :: (Value.str ⟨⟨[56]⟩⟩ 1440) :: (Value.str ⟨⟨[57]⟩⟩ 1443) :: (Value.str ⟨⟨[61,51,65]⟩⟩ 429) :: (Value.str ⟨⟨[61,51,66]⟩⟩ 433) :: (Value.str ⟨⟨[61,51,67]⟩⟩ 437) :: (Value.str ⟨⟨[61,51,68]⟩⟩ 441) :: (Value.str ⟨⟨[61,51,69]⟩⟩ 445) :: (Value.str ⟨⟨[61,51,70]⟩⟩ 449) :: (Value.str ⟨⟨[61,52,48]⟩⟩ 453) :: (Value.str ⟨⟨[65]⟩⟩ 1338) :: (Value.str ⟨⟨[66]⟩⟩ 1341) :: (Value.str ⟨⟨[67]⟩⟩ 1344) :: (Value.str ⟨⟨[68]⟩⟩ 1347) :: (Value.str ⟨⟨[69]⟩⟩ 1350) :: (Value.str ⟨⟨[70]⟩⟩ 1353) :: (Value.str ⟨⟨[71]⟩⟩ 1356) :: (Value.str ⟨⟨[72]⟩⟩ 1359) :: (Value.str ⟨⟨[73]⟩⟩ 1362) :: (Value.str ⟨⟨[74]⟩⟩ 1365) :: (Value.str ⟨⟨[75]⟩⟩ 1368) :: (Value.str ⟨⟨[76]⟩⟩ 1371) :: (Value.str ⟨⟨[77]⟩⟩ 1374) :: (Value.str ⟨⟨[78]⟩⟩ 1377) :: (Value.str ⟨⟨[79]⟩⟩ 1380) :: (Value.str ⟨⟨[80]⟩⟩ 1383) :: (Value.str ⟨⟨[81]⟩⟩ 1386) :: (Value.str ⟨⟨[82]⟩⟩ 1389) :: (Value.str ⟨⟨[83]⟩⟩ 1392) :: (Value.str ⟨⟨[84]⟩⟩ 1395) :: (Value.str ⟨⟨[85]⟩⟩ 1398) :: (Value.str ⟨⟨[86]⟩⟩ 1401) :: (Value.str ⟨⟨[87]⟩⟩ 1404) :: (Value.str ⟨⟨[88]⟩⟩ 1407) :: (Value.str ⟨⟨[89]⟩⟩ 1410) :: (Value.str ⟨⟨[90]⟩⟩ 1413) :: (Value.str ⟨⟨[61,53,66]⟩⟩ 561) :: (Value.str ⟨⟨[61,53,67]⟩⟩ 565) :: (Value.str ⟨⟨[61,53,68]⟩⟩ 569) :: (Value.str ⟨⟨[61,53,69]⟩⟩ 573) :: (Value.str ⟨⟨[61,53,70]⟩⟩ 577) :: (Value.str ⟨⟨[61,54,48]⟩⟩ 581) :: (Value.str ⟨⟨[97]⟩⟩ 1260) :: (Value.str ⟨⟨[98]⟩⟩ 1263) :: (Value.str ⟨⟨[99]⟩⟩ 1266) :: (Value.str ⟨⟨[100]⟩⟩ 1269) :: (Value.str ⟨⟨[101]⟩⟩ 1272) :: (Value.str ⟨⟨[102]⟩⟩ 1275) :: (Value.str ⟨⟨[103]⟩⟩ 1278) :: (Value.str ⟨⟨[104]⟩⟩ 1281) :: (Value.str ⟨⟨[105]⟩⟩ 1284) :: (Value.str ⟨⟨[106]⟩⟩ 1287) :: (Value.str ⟨⟨[107]⟩⟩ 1290) :: (Value.str ⟨⟨[108]⟩⟩ 1293) :: (Value.str ⟨⟨[109]⟩⟩ 1296) :: (Value.str ⟨⟨[110]⟩⟩ 1299) :: (Value.str ⟨⟨[111]⟩⟩ 1302) :: (Value.str ⟨⟨[112]⟩⟩ 1305) :: (Value.str ⟨⟨[113]⟩⟩ 1308) :: (Value.str ⟨⟨[114]⟩⟩ 1311) :: (Value.str ⟨⟨[115]⟩⟩ 1314) :: (Value.str ⟨⟨[116]⟩⟩ 1317) :: (Value.str ⟨⟨[117]⟩⟩ 1320) :: (Value.str ⟨⟨[118]⟩⟩ 1323) :: (Value.str ⟨⟨[119]⟩⟩ 1326) :: (Value.str ⟨⟨[120]⟩⟩ 1329) :: (Value.str ⟨⟨[121]⟩⟩ 1332) :: (Value.str ⟨⟨[122]⟩⟩ 1335) :: (Value.str ⟨⟨[61,55,66]⟩⟩ 689) :: (Value.str ⟨⟨[61,55,67]⟩⟩ 693) :: (Value.str ⟨⟨[61,55,68]⟩⟩ 697) :: (Value.str ⟨⟨[61,55,69]⟩⟩ 701) :: (Value.str ⟨⟨[61,55,70]⟩⟩ 705) :: (Value.str ⟨⟨[61,56,48]⟩⟩ 709) :: (Value.str ⟨⟨[61,56,49]⟩⟩ 713) :: (Value.str ⟨⟨[61,56,50]⟩⟩ 717) :: (Value.str ⟨⟨[61,56,51]⟩⟩ 721) :: (Value.str ⟨⟨[61,56,52]⟩⟩ 725) :: (Value.str ⟨⟨[61,56,53]⟩⟩ 729) :: (Value.str ⟨⟨[61,56,54]⟩⟩ 733) :: (Value.str ⟨⟨[61,56,55]⟩⟩ 737) :: (Value.str ⟨⟨[61,56,56]⟩⟩ 741) :: (Value.str ⟨⟨[61,56,57]⟩⟩ 745) :: (Value.str ⟨⟨[61,56,65]⟩⟩ 749) :: (Value.str ⟨⟨[61,56,66]⟩⟩ 753) :: (Value.str ⟨⟨[61,56,67]⟩⟩ 757) :: (Value.str ⟨⟨[61,56,68]⟩⟩ 761) :: (Value.str ⟨⟨[61,56,69]⟩⟩ 765) :: (Value.str ⟨⟨[61,56,70]⟩⟩ 769) :: (Value.str ⟨⟨[61,57,48]⟩⟩ 773) :: (Value.str ⟨⟨[61,57,49]⟩⟩ 777) :: (Value.str ⟨⟨[61,57,50]⟩⟩ 781) :: (Value.str ⟨⟨[61,57,51]⟩⟩ 785) :: (Value.str ⟨⟨[61,57,52]⟩⟩ 789) :: (Value.str ⟨⟨[61,57,53]⟩⟩ 793) :: (Value.str ⟨⟨[61,57,54]⟩⟩ 797) :: (Value.str ⟨⟨[61,57,55]⟩⟩ 801) :: (Value.str ⟨⟨[61,57,56]⟩⟩ 805) :: (Value.str ⟨⟨[61,57,57]⟩⟩ 809) :: (Value.str ⟨⟨[61,57,65]⟩⟩ 813) :: (Value.str ⟨⟨[61,57,66]⟩⟩ 817) :: (Value.str ⟨⟨[61,57,67]⟩⟩ 821) :: (Value.str ⟨⟨[61,57,68]⟩⟩ 825) :: (Value.str ⟨⟨[61,57,69]⟩⟩ 829) :: (Value.str ⟨⟨[61,57,70]⟩⟩ 833) :: (Value.str ⟨⟨[61,65,48]⟩⟩ 837) :: (Value.str ⟨⟨[61,65,49]⟩⟩ 841) :: (Value.str ⟨⟨[61,65,50]⟩⟩ 845) :: (Value.str ⟨⟨[61,65,51]⟩⟩ 849) :: (Value.str ⟨⟨[61,65,52]⟩⟩ 853) :: (Value.str ⟨⟨[61,65,53]⟩⟩ 857) :: (Value.str ⟨⟨[61,65,54]⟩⟩ 861) :: (Value.str ⟨⟨[61,65,55]⟩⟩ 865) :: (Value.str ⟨⟨[61,65,56]⟩⟩ 869) :: (Value.str ⟨⟨[61,65,57]⟩⟩ 873) :: (Value.str ⟨⟨[61,65,65]⟩⟩ 877) :: (Value.str ⟨⟨[61,65,66]⟩⟩ 881) :: (Value.str ⟨⟨[61,65,67]⟩⟩ 885) :: (Value.str ⟨⟨[61,65,68]⟩⟩ 889) :: (Value.str ⟨⟨[61,65,69]⟩⟩ 893) :: (Value.str ⟨⟨[61,65,70]⟩⟩ 897) :: (Value.str ⟨⟨[61,66,48]⟩⟩ 901) :: (Value.str ⟨⟨[61,66,49]⟩⟩ 905) :: (Value.str ⟨⟨[61,66,50]⟩⟩ 909) :: (Value.str ⟨⟨[61,66,51]⟩⟩ 913) :: (Value.str ⟨⟨[61,66,52]⟩⟩ 917) :: (Value.str ⟨⟨[61,66,53]⟩⟩ 921) :: (Value.str ⟨⟨[61,66,54]⟩⟩ 925) :: (Value.str ⟨⟨[61,66,55]⟩⟩ 929) :: (Value.str ⟨⟨[61,66,56]⟩⟩ 933) :: (Value.str ⟨⟨[61,66,57]⟩⟩ 937) :: (Value.str ⟨⟨[61,66,65]⟩⟩ 941) :: (Value.str ⟨⟨[61,66,66]⟩⟩ 945) :: (Value.str ⟨⟨[61,66,67]⟩⟩ 949) :: (Value.str ⟨⟨[61,66,68]⟩⟩ 953) :: (Value.str ⟨⟨[61,66,69]⟩⟩ 957) :: (Value.str ⟨⟨[61,66,70]⟩⟩ 961) :: (Value.str ⟨⟨[61,67,48]⟩⟩ 965) :: (Value.str ⟨⟨[61,67,49]⟩⟩ 969) :: (Value.str ⟨⟨[61,67,50]⟩⟩ 973) :: (Value.str ⟨⟨[61,67,51]⟩⟩ 977) :: (Value.str ⟨⟨[61,67,52]⟩⟩ 981) :: (Value.str ⟨⟨[61,67,53]⟩⟩ 985) :: (Value.str ⟨⟨[61,67,54]⟩⟩ 989) :: (Value.str ⟨⟨[61,67,55]⟩⟩ 993) :: (Value.str ⟨⟨[61,67,56]⟩⟩ 997) :: (Value.str ⟨⟨[61,67,57]⟩⟩ 1001) :: (Value.str ⟨⟨[61,67,65]⟩⟩ 1005) :: (Value.str ⟨⟨[61,67,66]⟩⟩ 1009) :: (Value.str ⟨⟨[61,67,67]⟩⟩ 1013) :: (Value.str ⟨⟨[61,67,68]⟩⟩ 1017) :: (Value.str ⟨⟨[61,67,69]⟩⟩ 1021) :: (Value.str ⟨⟨[61,67,70]⟩⟩ 1025) :: (Value.str ⟨⟨[61,68,48]⟩⟩ 1029) :: (Value.str ⟨⟨[61,68,49]⟩⟩ 1033) :: (Value.str ⟨⟨[61,68,50]⟩⟩ 1037) :: (Value.str ⟨⟨[61,68,51]⟩⟩ 1041) :: (Value.str ⟨⟨[61,68,52]⟩⟩ 1045) :: (Value.str ⟨⟨[61,68,53]⟩⟩ 1049) :: (Value.str ⟨⟨[61,68,54]⟩⟩ 1053) :: (Value.str ⟨⟨[61,68,55]⟩⟩ 1057) :: (Value.str ⟨⟨[61,68,56]⟩⟩ 1061) :: (Value.str ⟨⟨[61,68,57]⟩⟩ 1065) :: (Value.str ⟨⟨[61,68,65]⟩⟩ 1069) :: (Value.str ⟨⟨[61,68,66]⟩⟩ 1073) :: (Value.str ⟨⟨[61,68,67]⟩⟩ 1077) :: (Value.str ⟨⟨[61,68,68]⟩⟩ 1081) :: (Value.str ⟨⟨[61,68,69]⟩⟩ 1085) :: (Value.str ⟨⟨[61,68,70]⟩⟩ 1089) :: (Value.str ⟨⟨[61,69,48]⟩⟩ 1093) :: (Value.str ⟨⟨[61,69,49]⟩⟩ 1097) :: (Value.str ⟨⟨[61,69,50]⟩⟩ 1101) :: (Value.str ⟨⟨[61,69,51]⟩⟩ 1105) :: (Value.str ⟨⟨[61,69,52]⟩⟩ 1109) :: (Value.str ⟨⟨[61,69,53]⟩⟩ 1113) :: (Value.str ⟨⟨[61,69,54]⟩⟩ 1117) :: (Value.str ⟨⟨[61,69,55]⟩⟩ 1121) :: (Value.str ⟨⟨[61,69,56]⟩⟩ 1125) :: (Value.str ⟨⟨[61,69,57]⟩⟩ 1129) :: (Value.str ⟨⟨[61,69,65]⟩⟩ 1133) :: (Value.str ⟨⟨[61,69,66]⟩⟩ 1137) :: (Value.str ⟨⟨[61,69,67]⟩⟩ 1141) :: (Value.str ⟨⟨[61,69,68]⟩⟩ 1145) :: (Value.str ⟨⟨[61,69,69]⟩⟩ 1149) :: (Value.str ⟨⟨[61,69,70]⟩⟩ 1153) :: (Value.str ⟨⟨[61,70,48]⟩⟩ 1157) :: (Value.str ⟨⟨[61,70,49]⟩⟩ 1161) :: (Value.str ⟨⟨[61,70,50]⟩⟩ 1165) :: (Value.str ⟨⟨[61,70,51]⟩⟩ 1169) :: (Value.str ⟨⟨[61,70,52]⟩⟩ 1173) :: (Value.str ⟨⟨[61,70,53]⟩⟩ 1177) :: (Value.str ⟨⟨[61,70,54]⟩⟩ 1181) :: (Value.str ⟨⟨[61,70,55]⟩⟩ 1185) :: (Value.str ⟨⟨[61,70,56]⟩⟩ 1189) :: (Value.str ⟨⟨[61,70,57]⟩⟩ 1193) :: (Value.str ⟨⟨[61,70,65]⟩⟩ 1197) :: (Value.str ⟨⟨[61,70,66]⟩⟩ 1201) :: (Value.str ⟨⟨[61,70,67]⟩⟩ 1205) :: (Value.str ⟨⟨[61,70,68]⟩⟩ 1209) :: (Value.str ⟨⟨[61,70,69]⟩⟩ 1213) :: (Value.str ⟨⟨[61,70,70]⟩⟩ 1217) :: [])) 0) (List.toArray []))
noncomputable def o_384 (P : Params) : Obj := (Obj.mk (Value.type PySem.W.SL.s5991306692159431302x13) Option.none (Data.fields (List.toArray [(Value.ref 29), Value.none, Value.none, Value.none, (Value.bool Bool.false), Value.none])) (List.toArray []))
noncomputable def tree_384 (P : Params) : BT := (BT.node (o_42 P) (BT.node (o_43 P) (BT.node (o_380 P) (BT.node (o_49 P) (BT.node (o_62 P) BT.nil BT.nil) (BT.node (o_363 P) BT.nil BT.nil)) (BT.node (o_53 P) (BT.node (o_66 P) BT.nil BT.nil) (BT.node (o_369 P) BT.nil BT.nil))) (BT.node (o_47 P) (BT.node (o_51 P) (BT.node (o_64 P) BT.nil BT.nil) (BT.node (o_367 P) BT.nil BT.nil)) (BT.node (o_55 P) (BT.node (o_361 P) BT.nil BT.nil) (BT.node (o_383 P) BT.nil BT.nil)))) (BT.node (o_44 P) (BT.node (o_46 P) (BT.node (o_50 P) (BT.node (o_63 P) BT.nil BT.nil) (BT.node (o_381 P) BT.nil BT.nil)) (BT.node (o_54 P) (BT.node (o_67 P) BT.nil BT.nil) (BT.node (o_382 P) BT.nil BT.nil))) (BT.node (o_48 P) (BT.node (o_52 P) (BT.node (o_65 P) BT.nil BT.nil) (BT.node (o_368 P) BT.nil BT.nil)) (BT.node (o_56 P) (BT.node (o_378 P) BT.nil BT.nil) (BT.node (o_384 P) BT.nil BT.nil)))))
noncomputable def o_479 (P : Params) : Obj := (Obj.mk (Value.type PySem.W.SL.s14018661285674007319x4) Option.none (Data.dict (List.toArray [(DictEntry.mk (PyData.keyHash P ⟨⟨[95,95,110,97,109,101,95,95]⟩⟩) (Value.str ⟨⟨[95,95,110,97,109,101,95,95]⟩⟩ 165) (Value.str ⟨⟨[108,97,119,95,105,107,48,48,51,52,95,48,49]⟩⟩ 1839)), (DictEntry.mk (PyData.keyHash P ⟨⟨[95,95,100,111,99,95,95]⟩⟩) (Value.str ⟨⟨[95,95,100,111,99,95,95]⟩⟩ 166) Value.none), (DictEntry.mk (PyData.keyHash P ⟨⟨[95,95,112,97,99,107,97,103,101,95,95]⟩⟩) (Value.str ⟨⟨[95,95,112,97,99,107,97,103,101,95,95]⟩⟩ 167) Value.none), (DictEntry.mk (PyData.keyHash P ⟨⟨[95,95,108,111,97,100,101,114,95,95]⟩⟩) (Value.str ⟨⟨[95,95,108,111,97,100,101,114,95,95]⟩⟩ 168) (Value.builtin PySem.W.SL.s7097527257260152453x26)), (DictEntry.mk (PyData.keyHash P ⟨⟨[95,95,115,112,101,99,95,95]⟩⟩) (Value.str ⟨⟨[95,95,115,112,101,99,95,95]⟩⟩ 169) Value.none), (DictEntry.mk (PyData.keyHash P ⟨⟨[95,95,97,110,110,111,116,97,116,105,111,110,115,95,95]⟩⟩) (Value.str ⟨⟨[95,95,97,110,110,111,116,97,116,105,111,110,115,95,95]⟩⟩ 170) (Value.ref 6)), (DictEntry.mk (PyData.keyHash P ⟨⟨[95,95,98,117,105,108,116,105,110,115,95,95]⟩⟩) (Value.str ⟨⟨[95,95,98,117,105,108,116,105,110,115,95,95]⟩⟩ 171) (Value.ref 4)), (DictEntry.mk (PyData.keyHash P ⟨⟨[95,95,102,105,108,101,95,95]⟩⟩) (Value.str ⟨⟨[95,95,102,105,108,101,95,95]⟩⟩ 173) (Value.str ⟨⟨[47,99,108,97,105,109,47,99,117,116,46,112,121]⟩⟩ 172)), (DictEntry.mk (PyData.keyHash P ⟨⟨[95,95,99,97,99,104,101,100,95,95]⟩⟩) (Value.str ⟨⟨[95,95,99,97,99,104,101,100,95,95]⟩⟩ 174) Value.none), (DictEntry.mk (PyData.keyHash P ⟨⟨[67,82,76,70]⟩⟩) (Value.str ⟨⟨[67,82,76,70]⟩⟩ 188) (Value.str ⟨⟨[13,10]⟩⟩ 187)), (DictEntry.mk (PyData.keyHash P ⟨⟨[78,76]⟩⟩) (Value.str ⟨⟨[78,76]⟩⟩ 190) (Value.str ⟨⟨[10]⟩⟩ 189)), (DictEntry.mk (PyData.keyHash P ⟨⟨[95,81,85,79,80,82,73,95,77,65,80]⟩⟩) (Value.str ⟨⟨[95,81,85,79,80,82,73,95,77,65,80]⟩⟩ 1218) (Value.ref 17)), (DictEntry.mk (PyData.keyHash P ⟨⟨[95,81,85,79,80,82,73,95,72,69,65,68,69,82,95,77,65,80]⟩⟩) (Value.str ⟨⟨[95,81,85,79,80,82,73,95,72,69,65,68,69,82,95,77,65,80]⟩⟩ 1219) (Value.ref 22)), (DictEntry.mk (PyData.keyHash P ⟨⟨[95,81,85,79,80,82,73,95,66,79,68,89,95,77,65,80]⟩⟩) (Value.str ⟨⟨[95,81,85,79,80,82,73,95,66,79,68,89,95,77,65,80]⟩⟩ 1220) (Value.ref 24)), (DictEntry.mk (PyData.keyHash P ⟨⟨[97,115,99,105,105,95,108,111,119,101,114,99,97,115,101]⟩⟩) (Value.str ⟨⟨[97,115,99,105,105,95,108,111,119,101,114,99,97,115,101]⟩⟩ 1222) (Value.str ⟨⟨[97,98,99,100,101,102,103,104,105,106,107,108,109,110,111,112,113,114,115,116,117,118,119,120,121,122]⟩⟩ 1221)), (DictEntry.mk (PyData.keyHash P ⟨⟨[97,115,99,105,105,95,117,112,112,101,114,99,97,115,101]⟩⟩) (Value.str ⟨⟨[97,115,99,105,105,95,117,112,112,101,114,99,97,115,101]⟩⟩ 1224) (Value.str ⟨⟨[65,66,67,68,69,70,71,72,73,74,75,76,77,78,79,80,81,82,83,84,85,86,87,88,89,90]⟩⟩ 1223)), (DictEntry.mk (PyData.keyHash P ⟨⟨[97,115,99,105,105,95,108,101,116,116,101,114,115]⟩⟩) (Value.str ⟨⟨[97,115,99,105,105,95,108,101,116,116,101,114,115]⟩⟩ 1226) (Value.str ⟨⟨[97,98,99,100,101,102,103,104,105,106,107,108,109,110,111,112,113,114,115,116,117,118,119,120,121,122,65,66,67,68,69,70,71,72,73,74,75,76,77,78,79,80,81,82,83,84,85,86,87,88,89,90]⟩⟩ 1225)), (DictEntry.mk (PyData.keyHash P ⟨⟨[100,105,103,105,116,115]⟩⟩) (Value.str ⟨⟨[100,105,103,105,116,115]⟩⟩ 1228) (Value.str ⟨⟨[48,49,50,51,52,53,54,55,56,57]⟩⟩ 1227)), (DictEntry.mk (PyData.keyHash P ⟨⟨[104,101,120,100,105,103,105,116,115]⟩⟩) (Value.str ⟨⟨[104,101,120,100,105,103,105,116,115]⟩⟩ 1233) (Value.str ⟨⟨[48,49,50,51,52,53,54,55,56,57,97,98,99,100,101,102,65,66,67,68,69,70]⟩⟩ 1232)), (DictEntry.mk (PyData.keyHash P ⟨⟨[117,110,113,117,111,116,101]⟩⟩) (Value.str ⟨⟨[117,110,113,117,111,116,101]⟩⟩ 1739) (Value.ref 37)), (DictEntry.mk (PyData.keyHash P ⟨⟨[113,117,111,116,101]⟩⟩) (Value.str ⟨⟨[113,117,111,116,101]⟩⟩ 1746) (Value.ref 44)), (DictEntry.mk (PyData.keyHash P ⟨⟨[95,81,85,79,80,82,73,95,66,79,68,89,95,69,78,67,79,68,69,95,77,65,80]⟩⟩) (Value.str ⟨⟨[95,81,85,79,80,82,73,95,66,79,68,89,95,69,78,67,79,68,69,95,77,65,80]⟩⟩ 1747) (Value.ref 46)), (DictEntry.mk (PyData.keyHash P ⟨⟨[98,111,100,121,95,101,110,99,111,100,101]⟩⟩) (Value.str ⟨⟨[98,111,100,121,95,101,110,99,111,100,101]⟩⟩ 1774) (Value.ref 57)), (DictEntry.mk (PyData.keyHash P ⟨⟨[100,101,99,111,100,101]⟩⟩) (Value.str ⟨⟨[100,101,99,111,100,101]⟩⟩ 1787) (Value.ref 65)), (DictEntry.mk (PyData.keyHash P ⟨⟨[95,85,110,107,110,111,119,110]⟩⟩) (Value.str ⟨⟨[95,85,110,107,110,111,119,110]⟩⟩ 1816) (Value.ref 82)), (DictEntry.mk (PyData.keyHash P ⟨⟨[85,78,75,78,79,87,78]⟩⟩) (Value.str ⟨⟨[85,78,75,78,79,87,78]⟩⟩ 1817) (Value.ref 88)), (DictEntry.mk (PyData.keyHash P ⟨⟨[95,103,101,116,95,110,97,109,101,95,105,110,102,111]⟩⟩) (Value.str ⟨⟨[95,103,101,116,95,110,97,109,101,95,105,110,102,111]⟩⟩ 1827) (Value.ref 95)), (DictEntry.mk (PyData.keyHash P ⟨⟨[95,78,79,95,76,73,78,69,78,79]⟩⟩) (Value.str ⟨⟨[95,78,79,95,76,73,78,69,78,79]⟩⟩ 1829) (Value.str ⟨⟨[32,32,45,45]⟩⟩ 1828)), (DictEntry.mk (PyData.keyHash P ⟨⟨[95,103,101,116,95,108,105,110,101,110,111,95,119,105,100,116,104]⟩⟩) (Value.str ⟨⟨[95,103,101,116,95,108,105,110,101,110,111,95,119,105,100,116,104]⟩⟩ 1838) (Value.ref 102)), (DictEntry.mk (PyData.keyHash P ⟨⟨[95,108,97,119,95,108,105,110,101,115]⟩⟩) (Value.str ⟨⟨[95,108,97,119,95,108,105,110,101,115]⟩⟩ 1846) (Value.ref 107)), (DictEntry.mk (PyData.keyHash P ⟨⟨[95,108,97,119,95,114,111,119]⟩⟩) (Value.str ⟨⟨[95,108,97,119,95,114,111,119]⟩⟩ 1855) (Value.ref 114)), (DictEntry.mk (PyData.keyHash P ⟨⟨[95,108,97,119,95,115,105,103,110,115]⟩⟩) (Value.str ⟨⟨[95,108,97,119,95,115,105,103,110,115]⟩⟩ 1861) (Value.ref 119)), (DictEntry.mk (PyData.keyHash P ⟨⟨[95,108,97,119,95,112,97,114,116,115]⟩⟩) (Value.str ⟨⟨[95,108,97,119,95,112,97,114,116,115]⟩⟩ 1871) (Value.ref 126)), (DictEntry.mk (PyData.keyHash P ⟨⟨[95,108,97,119,95,108,101,116,116,101,114]⟩⟩) (Value.str ⟨⟨[95,108,97,119,95,108,101,116,116,101,114]⟩⟩ 1877) (Value.ref 131)), (DictEntry.mk (PyData.keyHash P ⟨⟨[108,97,119]⟩⟩) (Value.str ⟨⟨[108,97,119]⟩⟩ 1883) (Value.ref 136))]) 37) (List.toArray []))
noncomputable def o_398 (P : Params) : Obj := (Obj.mk (Value.type PySem.W.SL.s2766695959194262286x5) Option.none (Data.seq (List.toArray []) 0) (List.toArray []))
noncomputable def o_430 (P : Params) : Obj := (Obj.mk Value.none Option.none (Data.func (FuncData.mk ⟨⟨[100,101,99,111,100,101]⟩⟩ ⟨⟨[100,101,99,111,100,101]⟩⟩ (fnA 20) (.stmts (fnB 20)) (fnS 20) 0 [] Value.none Value.none Value.none Value.none Option.none Value.none Value.none 0)) (List.toArray []))
noncomputable def o_500 (P : Params) : Obj := (Obj.mk (Value.type PySem.W.SL.s2766695959194262286x5) Option.none (Data.seq (List.toArray []) 0) (List.toArray []))
noncomputable def o_466 (P : Params) : Obj := (Obj.mk (Value.type PySem.W.SL.s7174869446012820540x8) Option.none (Data.func (FuncData.mk ⟨⟨[95,103,101,116,95,110,97,109,101,95,105,110,102,111]⟩⟩ ⟨⟨[95,103,101,116,95,110,97,109,101,95,105,110,102,111]⟩⟩ (fnA 24) (.stmts (fnB 24)) (fnS 24) 3 [] Value.none Value.none Value.none (Value.str ⟨⟨[99,112,121,51,49,51,46,100,105,115]⟩⟩ 1788) Option.none (Value.ref 94) Value.none 0)) (List.toArray []))
noncomputable def o_414 (P : Params) : Obj := (Obj.mk (Value.type PySem.W.SL.s1378417608194177226x14) Option.none (Data.fields (List.toArray [Value.none, (Value.int 2 0)])) (List.toArray []))
noncomputable def o_450 (P : Params) : Obj := (Obj.mk (Value.type PySem.W.SL.s7174869446012820540x8) Option.none (Data.func (FuncData.mk ⟨⟨[95,95,114,101,112,114,95,95]⟩⟩ ⟨⟨[95,85,110,107,110,111,119,110,46,95,95,114,101,112,114,95,95]⟩⟩ (fnA 22) (.stmts (fnB 22)) (fnS 22) 3 [] Value.none Value.none Value.none (Value.str ⟨⟨[99,112,121,51,49,51,46,100,105,115]⟩⟩ 1788) Option.none (Value.ref 78) Value.none 0)) (List.toArray []))
noncomputable def o_484 (P : Params) : Obj := (Obj.mk (Value.type PySem.W.SL.s2766695959194262286x5) Option.none (Data.seq (List.toArray []) 0) (List.toArray []))
noncomputable def o_406 (P : Params) : Obj := (Obj.mk Value.none Option.none (Data.fields (List.toArray [])) (List.toArray []))
noncomputable def o_442 (P : Params) : Obj := (Obj.mk (Value.type PySem.W.SL.s5856160107412720595x4) Option.none (Data.fields (List.toArray [(Value.str ⟨⟨[95,85,110,107,110,111,119,110]⟩⟩ 1792), (Value.str ⟨⟨[95,85,110,107,110,111,119,110]⟩⟩ 1793), (Value.str ⟨⟨[47,99,108,97,105,109,47,99,117,116,46,112,121]⟩⟩ 1794), (Value.int 94 0), (Value.int 0 0), (Value.int 0 0), (Value.int 0 0), (Value.int 0 0), (Value.ref 69), (Value.bool Bool.false), (Value.int 181 0), (Value.ref 70), Value.none, Value.none, Value.none, Value.none, (Value.int 1795 0), (Value.int 94 0), (Value.str ⟨⟨[47,99,108,97,105,109,47,99,117,116,46,112,121]⟩⟩ 1796)])) (List.toArray []))
noncomputable def o_508 (P : Params) : Obj := (Obj.mk (Value.type PySem.W.SL.s5856160107412720595x4) Option.none (Data.fields (List.toArray [(Value.str ⟨⟨[108,97,119]⟩⟩ 1878), (Value.str ⟨⟨[108,97,119]⟩⟩ 1879), (Value.str ⟨⟨[47,99,108,97,105,109,47,99,117,116,46,112,121]⟩⟩ 1880), (Value.int 150 0), (Value.int 1 0), (Value.int 0 0), (Value.int 0 0), (Value.int 3 0), (Value.ref 132), (Value.bool Bool.true), (Value.int 181 0), (Value.ref 133), Value.none, Value.none, Value.none, (Value.ref 134), (Value.int 1881 0), (Value.int 150 0), (Value.str ⟨⟨[47,99,108,97,105,109,47,99,117,116,46,112,121]⟩⟩ 1882)])) (List.toArray []))
noncomputable def o_474 (P : Params) : Obj := (Obj.mk (Value.type PySem.W.SL.s2766695959194262286x5) Option.none (Data.seq (List.toArray []) 0) (List.toArray []))
noncomputable def o_422 (P : Params) : Obj := (Obj.mk Value.none Option.none (Data.func (FuncData.mk ⟨⟨[98,111,100,121,95,101,110,99,111,100,101]⟩⟩ ⟨⟨[98,111,100,121,95,101,110,99,111,100,101]⟩⟩ (fnA 19) (.stmts (fnB 19)) (fnS 19) 0 [] Value.none Value.none Value.none Value.none Option.none Value.none Value.none 0)) (List.toArray []))
noncomputable def o_458 (P : Params) : Obj := (Obj.mk (Value.type PySem.W.SL.s14018661285674007319x4) Option.none (Data.dict (List.toArray []) 0) (List.toArray []))
noncomputable def o_492 (P : Params) : Obj := (Obj.mk (Value.type PySem.W.SL.s7174869446012820540x8) Option.none (Data.func (FuncData.mk ⟨⟨[95,108,97,119,95,115,105,103,110,115]⟩⟩ ⟨⟨[95,108,97,119,95,115,105,103,110,115]⟩⟩ (fnA 30) (.stmts (fnB 30)) (fnS 30) 3 [] Value.none Value.none Value.none (Value.str ⟨⟨[108,97,119,95,105,107,48,48,51,52,95,48,49]⟩⟩ 1839) Option.none (Value.ref 118) Value.none 0)) (List.toArray []))
noncomputable def o_402 (P : Params) : Obj := (Obj.mk Value.none Option.none (Data.func (FuncData.mk ⟨⟨[117,110,113,117,111,116,101]⟩⟩ ⟨⟨[117,110,113,117,111,116,101]⟩⟩ (fnA 14) (.stmts (fnB 14)) (fnS 14) 0 [] Value.none Value.none Value.none Value.none Option.none Value.none Value.none 0)) (List.toArray []))
noncomputable def o_438 (P : Params) : Obj := (Obj.mk (Value.type PySem.W.SL.s11030030927630378310x26) Option.none (Data.fields (List.toArray [(Value.builtin PySem.W.SL.s10062305145149207511x16), (Value.type PySem.W.SL.s17162191345867700912x4)])) (List.toArray []))
noncomputable def o_504 (P : Params) : Obj := (Obj.mk (Value.type PySem.W.SL.s7174869446012820540x8) Option.none (Data.func (FuncData.mk ⟨⟨[95,108,97,119,95,108,101,116,116,101,114]⟩⟩ ⟨⟨[95,108,97,119,95,108,101,116,116,101,114]⟩⟩ (fnA 32) (.stmts (fnB 32)) (fnS 32) 3 [] Value.none Value.none Value.none (Value.str ⟨⟨[108,97,119,95,105,107,48,48,51,52,95,48,49]⟩⟩ 1839) Option.none (Value.ref 130) Value.none 0)) (List.toArray []))
noncomputable def o_470 (P : Params) : Obj := (Obj.mk (Value.type PySem.W.SL.s2766695959194262286x5) Option.none (Data.seq (List.toArray []) 0) (List.toArray []))
noncomputable def o_418 (P : Params) : Obj := (Obj.mk (Value.type PySem.W.SL.s2766695959194262286x5) Option.none (Data.seq (List.toArray []) 0) (List.toArray []))
noncomputable def o_454 (P : Params) : Obj := (Obj.mk (Value.type PySem.W.SL.s14755015743595814543x17) Option.none (Data.fields (List.toArray [(Value.str ⟨⟨[95,95,100,105,99,116,95,95]⟩⟩ 1810), (Value.ref 82), (Value.builtin PySem.W.SL.s6511155373996960695x17), (Value.builtin PySem.W.SL.s12411053484034534018x21)])) (List.toArray []))
noncomputable def o_488 (P : Params) : Obj := (Obj.mk (Value.type PySem.W.SL.s2766695959194262286x5) Option.none (Data.seq (List.toArray []) 0) (List.toArray []))
noncomputable def o_410 (P : Params) : Obj := (Obj.mk (Value.type PySem.W.SL.s5856160107412720595x4) Option.none (Data.fields (List.toArray [(Value.str ⟨⟨[113,117,111,116,101]⟩⟩ 1740), (Value.str ⟨⟨[113,117,111,116,101]⟩⟩ 1741), (Value.str ⟨⟨[47,99,108,97,105,109,47,99,117,116,46,112,121]⟩⟩ 1742), (Value.int 19 0), (Value.int 1 0), (Value.int 0 0), (Value.int 0 0), (Value.int 3 0), (Value.ref 38), (Value.bool Bool.true), (Value.int 181 0), (Value.ref 39), Value.none, (Value.ref 40), (Value.ref 41), (Value.ref 42), (Value.int 1744 0), (Value.int 19 0), (Value.str ⟨⟨[47,99,108,97,105,109,47,99,117,116,46,112,121]⟩⟩ 1745)])) (List.toArray []))
noncomputable def o_446 (P : Params) : Obj := (Obj.mk (Value.type PySem.W.SL.s2766695959194262286x5) Option.none (Data.seq (List.toArray [(Value.str ⟨⟨[115,101,108,102]⟩⟩ 1805)]) 0) (List.toArray []))
noncomputable def o_478 (P : Params) : Obj := (Obj.mk (Value.type PySem.W.SL.s7174869446012820540x8) Option.none (Data.func (FuncData.mk ⟨⟨[95,108,97,119,95,108,105,110,101,115]⟩⟩ ⟨⟨[95,108,97,119,95,108,105,110,101,115]⟩⟩ (fnA 28) (.stmts (fnB 28)) (fnS 28) 3 [] Value.none Value.none Value.none (Value.str ⟨⟨[108,97,119,95,105,107,48,48,51,52,95,48,49]⟩⟩ 1839) Option.none (Value.ref 106) Value.none 0)) (List.toArray []))
noncomputable def o_426 (P : Params) : Obj := (Obj.mk (Value.type PySem.W.SL.s2766695959194262286x5) Option.none (Data.seq (List.toArray []) 0) (List.toArray []))
noncomputable def o_462 (P : Params) : Obj := (Obj.mk (Value.type PySem.W.SL.s2766695959194262286x5) Option.none (Data.seq (List.toArray [(Value.str ⟨⟨[110,97,109,101,95,105,110,100,101,120]⟩⟩ 1821), (Value.str ⟨⟨[103,101,116,95,110,97,109,101]⟩⟩ 1822), (Value.str ⟨⟨[101,120,116,114,97,105,110,102,111]⟩⟩ 1823), (Value.str ⟨⟨[97,114,103,118,97,108]⟩⟩ 1824)]) 0) (List.toArray []))
noncomputable def o_496 (P : Params) : Obj := (Obj.mk (Value.type PySem.W.SL.s2766695959194262286x5) Option.none (Data.seq (List.toArray []) 0) (List.toArray []))
noncomputable def o_400 (P : Params) : Obj := (Obj.mk (Value.type PySem.W.SL.s2766695959194262286x5) Option.none (Data.seq (List.toArray [(Value.str ⟨⟨[115]⟩⟩ 1736)]) 0) (List.toArray []))
noncomputable def o_432 (P : Params) : Obj := (Obj.mk (Value.type PySem.W.SL.s7174869446012820540x8) Option.none (Data.func (FuncData.mk ⟨⟨[100,101,99,111,100,101]⟩⟩ ⟨⟨[100,101,99,111,100,101]⟩⟩ (fnA 20) (.stmts (fnB 20)) (fnS 20) 3 [] (Value.ref 58) Value.none Value.none (Value.str ⟨⟨[99,112,121,51,49,51,46,101,109,97,105,108,46,113,117,111,112,114,105,109,105,109,101]⟩⟩ 1234) Option.none (Value.ref 64) Value.none 0)) (List.toArray []))
noncomputable def o_502 (P : Params) : Obj := (Obj.mk Value.none Option.none (Data.func (FuncData.mk ⟨⟨[95,108,97,119,95,108,101,116,116,101,114]⟩⟩ ⟨⟨[95,108,97,119,95,108,101,116,116,101,114]⟩⟩ (fnA 32) (.stmts (fnB 32)) (fnS 32) 0 [] Value.none Value.none Value.none Value.none Option.none Value.none Value.none 0)) (List.toArray []))
noncomputable def o_468 (P : Params) : Obj := (Obj.mk Value.none Option.none (Data.fields (List.toArray [])) (List.toArray []))
noncomputable def o_416 (P : Params) : Obj := (Obj.mk (Value.type PySem.W.SL.s5991306692159431302x13) Option.none (Data.fields (List.toArray [(Value.ref 48), Value.none, Value.none, Value.none, (Value.bool Bool.false), Value.none])) (List.toArray []))
noncomputable def o_452 (P : Params) : Obj := (Obj.mk (Value.type PySem.W.SL.s14018661285674007319x4) Option.none (Data.dict (List.toArray [(DictEntry.mk (PyData.keyHash P ⟨⟨[95,95,109,111,100,117,108,101,95,95]⟩⟩) (Value.str ⟨⟨[95,95,109,111,100,117,108,101,95,95]⟩⟩ 1797) (Value.str ⟨⟨[99,112,121,51,49,51,46,100,105,115]⟩⟩ 1788)), (DictEntry.mk (PyData.keyHash P ⟨⟨[95,95,102,105,114,115,116,108,105,110,101,110,111,95,95]⟩⟩) (Value.str ⟨⟨[95,95,102,105,114,115,116,108,105,110,101,110,111,95,95]⟩⟩ 1801) (Value.int 94 1800)), (DictEntry.mk (PyData.keyHash P ⟨⟨[95,95,114,101,112,114,95,95]⟩⟩) (Value.str ⟨⟨[95,95,114,101,112,114,95,95]⟩⟩ 1808) (Value.ref 79)), (DictEntry.mk (PyData.keyHash P ⟨⟨[95,95,115,116,97,116,105,99,95,97,116,116,114,105,98,117,116,101,115,95,95]⟩⟩) (Value.str ⟨⟨[95,95,115,116,97,116,105,99,95,97,116,116,114,105,98,117,116,101,115,95,95]⟩⟩ 1809) (Value.ref 80)), (DictEntry.mk (PyData.keyHash P ⟨⟨[95,95,100,105,99,116,95,95]⟩⟩) (Value.str ⟨⟨[95,95,100,105,99,116,95,95]⟩⟩ 1811) (Value.ref 83)), (DictEntry.mk (PyData.keyHash P ⟨⟨[95,95,119,101,97,107,114,101,102,95,95]⟩⟩) (Value.str ⟨⟨[95,95,119,101,97,107,114,101,102,95,95]⟩⟩ 1813) (Value.ref 84)), (DictEntry.mk (PyData.keyHash P ⟨⟨[95,95,100,111,99,95,95]⟩⟩) (Value.str ⟨⟨[95,95,100,111,99,95,95]⟩⟩ 1814) Value.none)]) 4) (List.toArray []))
noncomputable def o_486 (P : Params) : Obj := (Obj.mk (Value.type PySem.W.SL.s5856160107412720595x4) Option.none (Data.fields (List.toArray [(Value.str ⟨⟨[95,108,97,119,95,114,111,119]⟩⟩ 1847), (Value.str ⟨⟨[95,108,97,119,95,114,111,119]⟩⟩ 1848), (Value.str ⟨⟨[47,99,108,97,105,109,47,99,117,116,46,112,121]⟩⟩ 1849), (Value.int 127 0), (Value.int 3 0), (Value.int 0 0), (Value.int 0 0), (Value.int 3 0), (Value.ref 108), (Value.bool Bool.true), (Value.int 181 0), (Value.ref 109), Value.none, (Value.ref 110), (Value.ref 111), (Value.ref 112), (Value.int 1853 0), (Value.int 127 0), (Value.str ⟨⟨[47,99,108,97,105,109,47,99,117,116,46,112,121]⟩⟩ 1854)])) (List.toArray []))
noncomputable def o_408 (P : Params) : Obj := (Obj.mk (Value.type PySem.W.SL.s2766695959194262286x5) Option.none (Data.seq (List.toArray []) 0) (List.toArray []))
noncomputable def o_444 (P : Params) : Obj := (Obj.mk (Value.type PySem.W.SL.s2766695959194262286x5) Option.none (Data.seq (List.toArray []) 0) (List.toArray []))
noncomputable def o_476 (P : Params) : Obj := (Obj.mk Value.none Option.none (Data.func (FuncData.mk ⟨⟨[95,108,97,119,95,108,105,110,101,115]⟩⟩ ⟨⟨[95,108,97,119,95,108,105,110,101,115]⟩⟩ (fnA 28) (.stmts (fnB 28)) (fnS 28) 0 [] Value.none Value.none Value.none Value.none Option.none Value.none Value.none 0)) (List.toArray []))
noncomputable def o_424 (P : Params) : Obj := (Obj.mk (Value.type PySem.W.SL.s7174869446012820540x8) Option.none (Data.func (FuncData.mk ⟨⟨[98,111,100,121,95,101,110,99,111,100,101]⟩⟩ ⟨⟨[98,111,100,121,95,101,110,99,111,100,101]⟩⟩ (fnA 19) (.stmts (fnB 19)) (fnS 19) 3 [] (Value.ref 50) Value.none Value.none (Value.str ⟨⟨[99,112,121,51,49,51,46,101,109,97,105,108,46,113,117,111,112,114,105,109,105,109,101]⟩⟩ 1234) Option.none (Value.ref 56) Value.none 0)) (List.toArray []))
noncomputable def o_460 (P : Params) : Obj := (Obj.mk (Value.type PySem.W.SL.s2766695959194262286x5) Option.none (Data.seq (List.toArray []) 0) (List.toArray []))
noncomputable def o_494 (P : Params) : Obj := (Obj.mk Value.none Option.none (Data.fields (List.toArray [])) (List.toArray []))
noncomputable def o_404 (P : Params) : Obj := (Obj.mk (Value.type PySem.W.SL.s7174869446012820540x8) Option.none (Data.func (FuncData.mk ⟨⟨[117,110,113,117,111,116,101]⟩⟩ ⟨⟨[117,110,113,117,111,116,101]⟩⟩ (fnA 14) (.stmts (fnB 14)) (fnS 14) 3 [] Value.none Value.none Value.none (Value.str ⟨⟨[99,112,121,51,49,51,46,101,109,97,105,108,46,113,117,111,112,114,105,109,105,109,101]⟩⟩ 1234) Option.none (Value.ref 36) Value.none 0)) (List.toArray []))
noncomputable def o_440 (P : Params) : Obj := (Obj.mk (Value.type PySem.W.SL.s2766695959194262286x5) Option.none (Data.seq (List.toArray []) 0) (List.toArray []))
noncomputable def o_506 (P : Params) : Obj := (Obj.mk Value.none Option.none (Data.fields (List.toArray [])) (List.toArray []))
noncomputable def o_472 (P : Params) : Obj := (Obj.mk (Value.type PySem.W.SL.s5856160107412720595x4) Option.none (Data.fields (List.toArray [(Value.str ⟨⟨[95,103,101,116,95,108,105,110,101,110,111,95,119,105,100,116,104]⟩⟩ 1830), (Value.str ⟨⟨[95,103,101,116,95,108,105,110,101,110,111,95,119,105,100,116,104]⟩⟩ 1831), (Value.str ⟨⟨[47,99,108,97,105,109,47,99,117,116,46,112,121]⟩⟩ 1832), (Value.int 106 0), (Value.int 1 0), (Value.int 0 0), (Value.int 0 0), (Value.int 3 0), (Value.ref 96), (Value.bool Bool.true), (Value.int 181 0), (Value.ref 97), Value.none, (Value.ref 98), (Value.ref 99), (Value.ref 100), (Value.int 1836 0), (Value.int 106 0), (Value.str ⟨⟨[47,99,108,97,105,109,47,99,117,116,46,112,121]⟩⟩ 1837)])) (List.toArray []))
noncomputable def o_420 (P : Params) : Obj := (Obj.mk (Value.type PySem.W.SL.s2766695959194262286x5) Option.none (Data.seq (List.toArray [(Value.str ⟨⟨[98,111,100,121]⟩⟩ 1759), (Value.str ⟨⟨[109,97,120,108,105,110,101,108,101,110]⟩⟩ 1760), (Value.str ⟨⟨[101,111,108]⟩⟩ 1761), (Value.str ⟨⟨[115,111,102,116,95,98,114,101,97,107]⟩⟩ 1762), (Value.str ⟨⟨[109,97,120,108,105,110,101,108,101,110,49]⟩⟩ 1763), (Value.str ⟨⟨[101,110,99,111,100,101,100,95,98,111,100,121]⟩⟩ 1764), (Value.str ⟨⟨[97,112,112,101,110,100]⟩⟩ 1765), (Value.str ⟨⟨[108,105,110,101]⟩⟩ 1766), (Value.str ⟨⟨[115,116,97,114,116]⟩⟩ 1767), (Value.str ⟨⟨[108,97,115,116,115,116,97,114,116]⟩⟩ 1768), (Value.str ⟨⟨[115,116,111,112]⟩⟩ 1769), (Value.str ⟨⟨[114,111,111,109]⟩⟩ 1770), (Value.str ⟨⟨[113]⟩⟩ 1771)]) 0) (List.toArray []))
noncomputable def o_456 (P : Params) : Obj := (Obj.mk (Value.type PySem.W.SL.s4290257624100764138x5) Option.none (Data.fields (List.toArray [(Value.ref 82), (Value.ref 82), (Value.ref 82)])) (List.toArray []))
noncomputable def o_490 (P : Params) : Obj := (Obj.mk Value.none Option.none (Data.func (FuncData.mk ⟨⟨[95,108,97,119,95,115,105,103,110,115]⟩⟩ ⟨⟨[95,108,97,119,95,115,105,103,110,115]⟩⟩ (fnA 30) (.stmts (fnB 30)) (fnS 30) 0 [] Value.none Value.none Value.none Value.none Option.none Value.none Value.none 0)) (List.toArray []))
noncomputable def o_412 (P : Params) : Obj := (Obj.mk (Value.type PySem.W.SL.s4674234679698826739x5) Option.none (Data.fields (List.toArray [Value.none, Value.none, Value.none])) (List.toArray []))
noncomputable def o_448 (P : Params) : Obj := (Obj.mk Value.none Option.none (Data.func (FuncData.mk ⟨⟨[95,95,114,101,112,114,95,95]⟩⟩ ⟨⟨[95,85,110,107,110,111,119,110,46,95,95,114,101,112,114,95,95]⟩⟩ (fnA 22) (.stmts (fnB 22)) (fnS 22) 0 [] Value.none Value.none Value.none Value.none Option.none Value.none Value.none 0)) (List.toArray []))
noncomputable def o_482 (P : Params) : Obj := (Obj.mk Value.none Option.none (Data.fields (List.toArray [])) (List.toArray []))
noncomputable def o_428 (P : Params) : Obj := (Obj.mk (Value.type PySem.W.SL.s2766695959194262286x5) Option.none (Data.seq (List.toArray [(Value.str ⟨⟨[101,110,99,111,100,101,100]⟩⟩ 1778), (Value.str ⟨⟨[101,111,108]⟩⟩ 1779), (Value.str ⟨⟨[100,101,99,111,100,101,100]⟩⟩ 1780), (Value.str ⟨⟨[108,105,110,101]⟩⟩ 1781), (Value.str ⟨⟨[105]⟩⟩ 1782), (Value.str ⟨⟨[110]⟩⟩ 1783), (Value.str ⟨⟨[99]⟩⟩ 1784)]) 0) (List.toArray []))
noncomputable def o_464 (P : Params) : Obj := (Obj.mk Value.none Option.none (Data.func (FuncData.mk ⟨⟨[95,103,101,116,95,110,97,109,101,95,105,110,102,111]⟩⟩ ⟨⟨[95,103,101,116,95,110,97,109,101,95,105,110,102,111]⟩⟩ (fnA 24) (.stmts (fnB 24)) (fnS 24) 0 [] Value.none Value.none Value.none Value.none Option.none Value.none Value.none 0)) (List.toArray []))
noncomputable def o_498 (P : Params) : Obj := (Obj.mk (Value.type PySem.W.SL.s5856160107412720595x4) Option.none (Data.fields (List.toArray [(Value.str ⟨⟨[95,108,97,119,95,112,97,114,116,115]⟩⟩ 1862), (Value.str ⟨⟨[95,108,97,119,95,112,97,114,116,115]⟩⟩ 1863), (Value.str ⟨⟨[47,99,108,97,105,109,47,99,117,116,46,112,121]⟩⟩ 1864), (Value.int 133 0), (Value.int 3 0), (Value.int 0 0), (Value.int 0 0), (Value.int 3 0), (Value.ref 120), (Value.bool Bool.true), (Value.int 181 0), (Value.ref 121), Value.none, (Value.ref 122), (Value.ref 123), (Value.ref 124), (Value.int 1869 0), (Value.int 133 0), (Value.str ⟨⟨[47,99,108,97,105,109,47,99,117,116,46,112,121]⟩⟩ 1870)])) (List.toArray []))
noncomputable def o_399 (P : Params) : Obj := (Obj.mk Value.none Option.none (Data.fields (List.toArray [])) (List.toArray []))
noncomputable def o_431 (P : Params) : Obj := (Obj.mk (Value.type PySem.W.SL.s5856160107412720595x4) Option.none (Data.fields (List.toArray [(Value.str ⟨⟨[100,101,99,111,100,101]⟩⟩ 1775), (Value.str ⟨⟨[100,101,99,111,100,101]⟩⟩ 1776), (Value.str ⟨⟨[47,99,108,97,105,109,47,99,117,116,46,112,121]⟩⟩ 1777), (Value.int 63 0), (Value.int 2 0), (Value.int 0 0), (Value.int 0 0), (Value.int 3 0), (Value.ref 59), (Value.bool Bool.true), (Value.int 181 0), (Value.ref 60), Value.none, (Value.ref 61), (Value.ref 62), (Value.ref 63), (Value.int 1785 0), (Value.int 63 0), (Value.str ⟨⟨[47,99,108,97,105,109,47,99,117,116,46,112,121]⟩⟩ 1786)])) (List.toArray []))
noncomputable def o_501 (P : Params) : Obj := (Obj.mk Value.none Option.none (Data.fields (List.toArray [])) (List.toArray []))
noncomputable def o_467 (P : Params) : Obj := (Obj.mk (Value.type PySem.W.SL.s2766695959194262286x5) Option.none (Data.seq (List.toArray []) 0) (List.toArray []))
noncomputable def o_415 (P : Params) : Obj := (Obj.mk (Value.type PySem.W.SL.s2766695959194262286x5) Option.none (Data.seq (List.toArray []) 0) (List.toArray []))
noncomputable def o_451 (P : Params) : Obj := (Obj.mk (Value.type PySem.W.SL.s2766695959194262286x5) Option.none (Data.seq (List.toArray []) 0) (List.toArray []))
noncomputable def o_485 (P : Params) : Obj := (Obj.mk Value.none Option.none (Data.func (FuncData.mk ⟨⟨[95,108,97,119,95,114,111,119]⟩⟩ ⟨⟨[95,108,97,119,95,114,111,119]⟩⟩ (fnA 29) (.stmts (fnB 29)) (fnS 29) 0 [] Value.none Value.none Value.none Value.none Option.none Value.none Value.none 0)) (List.toArray []))
noncomputable def o_407 (P : Params) : Obj := (Obj.mk (Value.type PySem.W.SL.s2766695959194262286x5) Option.none (Data.seq (List.toArray [(Value.str ⟨⟨[99]⟩⟩ 1743)]) 0) (List.toArray []))
noncomputable def o_443 (P : Params) : Obj := (Obj.mk (Value.type PySem.W.SL.s658472552662922059x5) Option.none Data.plain (List.toArray [(Option.some (Value.ref 71)), (Option.some (Value.ref 3)), (Option.some (Value.ref 68)), Option.none, (Option.some (Value.str ⟨⟨[99,112,121,51,49,51,46,100,105,115]⟩⟩ 1788)), Option.none, (Option.some (Value.ref 0))]))
noncomputable def o_509 (P : Params) : Obj := (Obj.mk (Value.type PySem.W.SL.s7174869446012820540x8) Option.none (Data.func (FuncData.mk ⟨⟨[108,97,119]⟩⟩ ⟨⟨[108,97,119]⟩⟩ (fnA 33) (.stmts (fnB 33)) (fnS 33) 3 [] Value.none Value.none Value.none (Value.str ⟨⟨[108,97,119,95,105,107,48,48,51,52,95,48,49]⟩⟩ 1839) Option.none (Value.ref 135) Value.none 0)) (List.toArray []))
noncomputable def o_475 (P : Params) : Obj := (Obj.mk Value.none Option.none (Data.fields (List.toArray [])) (List.toArray []))
noncomputable def o_423 (P : Params) : Obj := (Obj.mk (Value.type PySem.W.SL.s5856160107412720595x4) Option.none (Data.fields (List.toArray [(Value.str ⟨⟨[98,111,100,121,95,101,110,99,111,100,101]⟩⟩ 1756), (Value.str ⟨⟨[98,111,100,121,95,101,110,99,111,100,101]⟩⟩ 1757), (Value.str ⟨⟨[47,99,108,97,105,109,47,99,117,116,46,112,121]⟩⟩ 1758), (Value.int 25 0), (Value.int 3 0), (Value.int 0 0), (Value.int 0 0), (Value.int 3 0), (Value.ref 51), (Value.bool Bool.true), (Value.int 181 0), (Value.ref 52), Value.none, (Value.ref 53), (Value.ref 54), (Value.ref 55), (Value.int 1772 0), (Value.int 25 0), (Value.str ⟨⟨[47,99,108,97,105,109,47,99,117,116,46,112,121]⟩⟩ 1773)])) (List.toArray []))
noncomputable def o_459 (P : Params) : Obj := (Obj.mk (Value.ref 82) (Option.some 87) Data.plain (List.toArray []))
noncomputable def o_493 (P : Params) : Obj := (Obj.mk (Value.type PySem.W.SL.s2766695959194262286x5) Option.none (Data.seq (List.toArray []) 0) (List.toArray []))
noncomputable def o_480 (P : Params) : Obj := (Obj.mk Value.none Option.none (Data.fields (List.toArray [(Value.int 17 0), (Value.int 0 0), (Value.ref 36), (Value.int 19 0), (Value.int 0 0), (Value.ref 43), (Value.int 25 0), (Value.int 0 0), (Value.ref 56), (Value.int 63 0), (Value.int 0 0), (Value.ref 64), (Value.int 94 0), (Value.int 0 0), (Value.ref 71), (Value.int 99 0), (Value.int 0 0), (Value.ref 94), (Value.int 106 0), (Value.int 0 0), (Value.ref 101), (Value.int 117 0), (Value.int 0 0), (Value.ref 106), (Value.int 127 0), (Value.int 0 0), (Value.ref 113), (Value.int 131 0), (Value.int 0 0), (Value.ref 118), (Value.int 133 0), (Value.int 0 0), (Value.ref 125), (Value.int 142 0), (Value.int 0 0), (Value.ref 130), (Value.int 150 0), (Value.int 0 0), (Value.ref 135)])) (List.toArray []))
noncomputable def o_403 (P : Params) : Obj := (Obj.mk (Value.type PySem.W.SL.s5856160107412720595x4) Option.none (Data.fields (List.toArray [(Value.str ⟨⟨[117,110,113,117,111,116,101]⟩⟩ 1733), (Value.str ⟨⟨[117,110,113,117,111,116,101]⟩⟩ 1734), (Value.str ⟨⟨[47,99,108,97,105,109,47,99,117,116,46,112,121]⟩⟩ 1735), (Value.int 17 0), (Value.int 1 0), (Value.int 0 0), (Value.int 0 0), (Value.int 3 0), (Value.ref 31), (Value.bool Bool.true), (Value.int 181 0), (Value.ref 32), Value.none, (Value.ref 33), (Value.ref 34), (Value.ref 35), (Value.int 1737 0), (Value.int 17 0), (Value.str ⟨⟨[47,99,108,97,105,109,47,99,117,116,46,112,121]⟩⟩ 1738)])) (List.toArray []))
noncomputable def o_439 (P : Params) : Obj := (Obj.mk (Value.type PySem.W.SL.s14018661285674007319x4) Option.none (Data.dict (List.toArray [(DictEntry.mk (PyData.keyHash P ⟨⟨[95,95,109,111,100,117,108,101,95,95]⟩⟩) (Value.str ⟨⟨[95,95,109,111,100,117,108,101,95,95]⟩⟩ 1797) (Value.str ⟨⟨[99,112,121,51,49,51,46,100,105,115]⟩⟩ 1788)), (DictEntry.mk (PyData.keyHash P ⟨⟨[95,95,113,117,97,108,110,97,109,101,95,95]⟩⟩) (Value.str ⟨⟨[95,95,113,117,97,108,110,97,109,101,95,95]⟩⟩ 1799) (Value.str ⟨⟨[95,85,110,107,110,111,119,110]⟩⟩ 1798)), (DictEntry.mk (PyData.keyHash P ⟨⟨[95,95,102,105,114,115,116,108,105,110,101,110,111,95,95]⟩⟩) (Value.str ⟨⟨[95,95,102,105,114,115,116,108,105,110,101,110,111,95,95]⟩⟩ 1801) (Value.int 94 1800)), (DictEntry.mk (PyData.keyHash P ⟨⟨[95,95,114,101,112,114,95,95]⟩⟩) (Value.str ⟨⟨[95,95,114,101,112,114,95,95]⟩⟩ 1808) (Value.ref 79)), (DictEntry.mk (PyData.keyHash P ⟨⟨[95,95,115,116,97,116,105,99,95,97,116,116,114,105,98,117,116,101,115,95,95]⟩⟩) (Value.str ⟨⟨[95,95,115,116,97,116,105,99,95,97,116,116,114,105,98,117,116,101,115,95,95]⟩⟩ 1809) (Value.ref 80))]) 5) (List.toArray []))
noncomputable def o_505 (P : Params) : Obj := (Obj.mk (Value.type PySem.W.SL.s2766695959194262286x5) Option.none (Data.seq (List.toArray []) 0) (List.toArray []))
noncomputable def o_471 (P : Params) : Obj := (Obj.mk Value.none Option.none (Data.func (FuncData.mk ⟨⟨[95,103,101,116,95,108,105,110,101,110,111,95,119,105,100,116,104]⟩⟩ ⟨⟨[95,103,101,116,95,108,105,110,101,110,111,95,119,105,100,116,104]⟩⟩ (fnA 26) (.stmts (fnB 26)) (fnS 26) 0 [] Value.none Value.none Value.none Value.none Option.none Value.none Value.none 0)) (List.toArray []))
noncomputable def o_419 (P : Params) : Obj := (Obj.mk Value.none Option.none (Data.fields (List.toArray [])) (List.toArray []))
noncomputable def o_455 (P : Params) : Obj := (Obj.mk (Value.type PySem.W.SL.s14755015743595814543x17) Option.none (Data.fields (List.toArray [(Value.str ⟨⟨[95,95,119,101,97,107,114,101,102,95,95]⟩⟩ 1812), (Value.ref 82), (Value.builtin PySem.W.SL.s10220274742760427390x26), Value.none])) (List.toArray []))
noncomputable def o_489 (P : Params) : Obj := (Obj.mk Value.none Option.none (Data.fields (List.toArray [])) (List.toArray []))
noncomputable def o_411 (P : Params) : Obj := (Obj.mk (Value.type PySem.W.SL.s7174869446012820540x8) Option.none (Data.func (FuncData.mk ⟨⟨[113,117,111,116,101]⟩⟩ ⟨⟨[113,117,111,116,101]⟩⟩ (fnA 15) (.stmts (fnB 15)) (fnS 15) 3 [] Value.none Value.none Value.none (Value.str ⟨⟨[99,112,121,51,49,51,46,101,109,97,105,108,46,113,117,111,112,114,105,109,105,109,101]⟩⟩ 1234) Option.none (Value.ref 43) Value.none 0)) (List.toArray []))
noncomputable def o_447 (P : Params) : Obj := (Obj.mk (Value.type PySem.W.SL.s2766695959194262286x5) Option.none (Data.seq (List.toArray []) 0) (List.toArray []))
noncomputable def o_481 (P : Params) : Obj := (Obj.mk (Value.type PySem.W.SL.s2766695959194262286x5) Option.none (Data.seq (List.toArray []) 0) (List.toArray []))
noncomputable def o_427 (P : Params) : Obj := (Obj.mk Value.none Option.none (Data.fields (List.toArray [])) (List.toArray []))
noncomputable def o_463 (P : Params) : Obj := (Obj.mk (Value.type PySem.W.SL.s2766695959194262286x5) Option.none (Data.seq (List.toArray []) 0) (List.toArray []))
noncomputable def o_497 (P : Params) : Obj := (Obj.mk Value.none Option.none (Data.func (FuncData.mk ⟨⟨[95,108,97,119,95,112,97,114,116,115]⟩⟩ ⟨⟨[95,108,97,119,95,112,97,114,116,115]⟩⟩ (fnA 31) (.stmts (fnB 31)) (fnS 31) 0 [] Value.none Value.none Value.none Value.none Option.none Value.none Value.none 0)) (List.toArray []))
noncomputable def o_401 (P : Params) : Obj := (Obj.mk (Value.type PySem.W.SL.s2766695959194262286x5) Option.none (Data.seq (List.toArray []) 0) (List.toArray []))
noncomputable def o_437 (P : Params) : Obj := (Obj.mk (Value.type PySem.W.SL.s2766695959194262286x5) Option.none (Data.seq (List.toArray []) 0) (List.toArray []))
noncomputable def o_503 (P : Params) : Obj := (Obj.mk (Value.type PySem.W.SL.s5856160107412720595x4) Option.none (Data.fields (List.toArray [(Value.str ⟨⟨[95,108,97,119,95,108,101,116,116,101,114]⟩⟩ 1872), (Value.str ⟨⟨[95,108,97,119,95,108,101,116,116,101,114]⟩⟩ 1873), (Value.str ⟨⟨[47,99,108,97,105,109,47,99,117,116,46,112,121]⟩⟩ 1874), (Value.int 142 0), (Value.int 3 0), (Value.int 0 0), (Value.int 0 0), (Value.int 3 0), (Value.ref 127), (Value.bool Bool.true), (Value.int 181 0), (Value.ref 128), Value.none, Value.none, Value.none, (Value.ref 129), (Value.int 1875 0), (Value.int 142 0), (Value.str ⟨⟨[47,99,108,97,105,109,47,99,117,116,46,112,121]⟩⟩ 1876)])) (List.toArray []))
noncomputable def o_469 (P : Params) : Obj := (Obj.mk (Value.type PySem.W.SL.s2766695959194262286x5) Option.none (Data.seq (List.toArray [(Value.str ⟨⟨[108,105,110,101,115,116,97,114,116,115]⟩⟩ 1833), (Value.str ⟨⟨[109,97,120,108,105,110,101,110,111]⟩⟩ 1834), (Value.str ⟨⟨[108,105,110,101,110,111,95,119,105,100,116,104]⟩⟩ 1835)]) 0) (List.toArray []))
noncomputable def o_417 (P : Params) : Obj := (Obj.mk (Value.type PySem.W.SL.s2766695959194262286x5) Option.none (Data.seq (List.toArray [(Value.int 76 1755), (Value.str ⟨⟨[10]⟩⟩ 189)]) 0) (List.toArray []))
noncomputable def o_453 (P : Params) : Obj := (Obj.mk (Value.type PySem.W.SL.s17162191345867700912x4) Option.none (Data.cls (ClassData.mk ⟨⟨[95,85,110,107,110,111,119,110]⟩⟩ [(Value.type PySem.W.SL.s2742458400755230247x6)] [(Value.ref 82), (Value.type PySem.W.SL.s2742458400755230247x6)] 81 ⟨⟨[95,85,110,107,110,111,119,110]⟩⟩ Bool.true [] [] Bool.false Option.none Bool.false)) (List.toArray [Option.none, Option.none, (Option.some (Value.str ⟨⟨[95,85,110,107,110,111,119,110]⟩⟩ 1790)), (Option.some (Value.str ⟨⟨[95,85,110,107,110,111,119,110]⟩⟩ 1798)), (Option.some (Value.builtin PySem.W.SL.s11443829558043349243x14)), (Option.some (Value.bool Bool.true))]))
noncomputable def o_487 (P : Params) : Obj := (Obj.mk (Value.type PySem.W.SL.s7174869446012820540x8) Option.none (Data.func (FuncData.mk ⟨⟨[95,108,97,119,95,114,111,119]⟩⟩ ⟨⟨[95,108,97,119,95,114,111,119]⟩⟩ (fnA 29) (.stmts (fnB 29)) (fnS 29) 3 [] Value.none Value.none Value.none (Value.str ⟨⟨[108,97,119,95,105,107,48,48,51,52,95,48,49]⟩⟩ 1839) Option.none (Value.ref 113) Value.none 0)) (List.toArray []))
noncomputable def o_409 (P : Params) : Obj := (Obj.mk Value.none Option.none (Data.func (FuncData.mk ⟨⟨[113,117,111,116,101]⟩⟩ ⟨⟨[113,117,111,116,101]⟩⟩ (fnA 15) (.stmts (fnB 15)) (fnS 15) 0 [] Value.none Value.none Value.none Value.none Option.none Value.none Value.none 0)) (List.toArray []))
noncomputable def o_445 (P : Params) : Obj := (Obj.mk Value.none Option.none (Data.fields (List.toArray [])) (List.toArray []))
noncomputable def o_477 (P : Params) : Obj := (Obj.mk (Value.type PySem.W.SL.s5856160107412720595x4) Option.none (Data.fields (List.toArray [(Value.str ⟨⟨[95,108,97,119,95,108,105,110,101,115]⟩⟩ 1841), (Value.str ⟨⟨[95,108,97,119,95,108,105,110,101,115]⟩⟩ 1842), (Value.str ⟨⟨[47,99,108,97,105,109,47,99,117,116,46,112,121]⟩⟩ 1843), (Value.int 117 0), (Value.int 1 0), (Value.int 0 0), (Value.int 0 0), (Value.int 3 0), (Value.ref 103), (Value.bool Bool.true), (Value.int 181 0), (Value.ref 104), Value.none, Value.none, Value.none, (Value.ref 105), (Value.int 1844 0), (Value.int 117 0), (Value.str ⟨⟨[47,99,108,97,105,109,47,99,117,116,46,112,121]⟩⟩ 1845)])) (List.toArray []))
noncomputable def o_425 (P : Params) : Obj := (Obj.mk (Value.type PySem.W.SL.s2766695959194262286x5) Option.none (Data.seq (List.toArray [(Value.str ⟨⟨[10]⟩⟩ 189)]) 0) (List.toArray []))
noncomputable def o_461 (P : Params) : Obj := (Obj.mk Value.none Option.none (Data.fields (List.toArray [])) (List.toArray []))
noncomputable def o_495 (P : Params) : Obj := (Obj.mk (Value.type PySem.W.SL.s2766695959194262286x5) Option.none (Data.seq (List.toArray [(Value.str ⟨⟨[114,111,119]⟩⟩ 1865), (Value.str ⟨⟨[110,101,101,100]⟩⟩ 1866), (Value.str ⟨⟨[109,111,115,116]⟩⟩ 1867), (Value.str ⟨⟨[98,101,104,105,110,100]⟩⟩ 1868)]) 0) (List.toArray []))
noncomputable def o_405 (P : Params) : Obj := (Obj.mk (Value.type PySem.W.SL.s2766695959194262286x5) Option.none (Data.seq (List.toArray []) 0) (List.toArray []))
noncomputable def o_441 (P : Params) : Obj := (Obj.mk Value.none Option.none (Data.fields (List.toArray [(Value.int 96 0), (Value.int 4 0), (Value.ref 78)])) (List.toArray []))
noncomputable def o_507 (P : Params) : Obj := (Obj.mk Value.none Option.none (Data.func (FuncData.mk ⟨⟨[108,97,119]⟩⟩ ⟨⟨[108,97,119]⟩⟩ (fnA 33) (.stmts (fnB 33)) (fnS 33) 0 [] Value.none Value.none Value.none Value.none Option.none Value.none Value.none 0)) (List.toArray []))
noncomputable def o_473 (P : Params) : Obj := (Obj.mk (Value.type PySem.W.SL.s7174869446012820540x8) Option.none (Data.func (FuncData.mk ⟨⟨[95,103,101,116,95,108,105,110,101,110,111,95,119,105,100,116,104]⟩⟩ ⟨⟨[95,103,101,116,95,108,105,110,101,110,111,95,119,105,100,116,104]⟩⟩ (fnA 26) (.stmts (fnB 26)) (fnS 26) 3 [] Value.none Value.none Value.none (Value.str ⟨⟨[99,112,121,51,49,51,46,100,105,115]⟩⟩ 1788) Option.none (Value.ref 101) Value.none 0)) (List.toArray []))
noncomputable def o_421 (P : Params) : Obj := (Obj.mk (Value.type PySem.W.SL.s2766695959194262286x5) Option.none (Data.seq (List.toArray []) 0) (List.toArray []))
noncomputable def o_457 (P : Params) : Obj := (Obj.mk (Value.type PySem.W.SL.s11030030927630378310x26) Option.none (Data.fields (List.toArray [(Value.builtin PySem.W.SL.s4860613602091757760x24), (Value.ref 82)])) (List.toArray []))
noncomputable def o_491 (P : Params) : Obj := (Obj.mk (Value.type PySem.W.SL.s5856160107412720595x4) Option.none (Data.fields (List.toArray [(Value.str ⟨⟨[95,108,97,119,95,115,105,103,110,115]⟩⟩ 1856), (Value.str ⟨⟨[95,108,97,119,95,115,105,103,110,115]⟩⟩ 1857), (Value.str ⟨⟨[47,99,108,97,105,109,47,99,117,116,46,112,121]⟩⟩ 1858), (Value.int 131 0), (Value.int 1 0), (Value.int 0 0), (Value.int 0 0), (Value.int 3 0), (Value.ref 115), (Value.bool Bool.true), (Value.int 181 0), (Value.ref 116), Value.none, Value.none, Value.none, (Value.ref 117), (Value.int 1859 0), (Value.int 131 0), (Value.str ⟨⟨[47,99,108,97,105,109,47,99,117,116,46,112,121]⟩⟩ 1860)])) (List.toArray []))
noncomputable def o_413 (P : Params) : Obj := (Obj.mk (Value.type PySem.W.SL.s9222952809800978799x4) Option.none (Data.seq (List.toArray ((Value.str ⟨⟨[61,48,48]⟩⟩ 197) :: (Value.str ⟨⟨[61,48,49]⟩⟩ 201) :: (Value.str ⟨⟨[61,48,50]⟩⟩ 205) :: (Value.str ⟨⟨[61,48,51]⟩⟩ 209) :: (Value.str ⟨⟨[61,48,52]⟩⟩ 213) :: (Value.str ⟨⟨[61,48,53]⟩⟩ 217) :: (Value.str ⟨⟨[61,48,54]⟩⟩ 221) :: (Value.str ⟨⟨[61,48,55]⟩⟩ 225) :: (Value.str ⟨⟨[61,48,56]⟩⟩ 229) :: (Value.str ⟨⟨[9]⟩⟩ 1732) :: (Value.str ⟨⟨[10]⟩⟩ 1754) :: (Value.str ⟨⟨[61,48,66]⟩⟩ 241) :: (Value.str ⟨⟨[61,48,67]⟩⟩ 245) :: (Value.str ⟨⟨[13]⟩⟩ 1751) :: (Value.str ⟨⟨[61,48,69]⟩⟩ 253) :: (Value.str ⟨⟨[61,48,70]⟩⟩ 257) :: (Value.str ⟨⟨[61,49,48]⟩⟩ 261) :: (Value.str ⟨⟨[61,49,49]⟩⟩ 265) :: (Value.str ⟨⟨[61,49,50]⟩⟩ 269) :: (Value.str ⟨⟨[61,49,51]⟩⟩ 273) :: (Value.str ⟨⟨[61,49,52]⟩⟩ 277) :: (Value.str ⟨⟨[61,49,53]⟩⟩ 281) :: (Value.str ⟨⟨[61,49,54]⟩⟩ 285) :: (Value.str ⟨⟨[61,49,55]⟩⟩ 289) :: (Value.str ⟨⟨[61,49,56]⟩⟩ 293) :: (Value.str ⟨⟨[61,49,57]⟩⟩ 297) :: (Value.str ⟨⟨[61,49,65]⟩⟩ 301) :: (Value.str ⟨⟨[61,49,66]⟩⟩ 305) :: (Value.str ⟨⟨[61,49,67]⟩⟩ 309) :: (Value.str ⟨⟨[61,49,68]⟩⟩ 313) :: (Value.str ⟨⟨[61,49,69]⟩⟩ 317) :: (Value.str ⟨⟨[61,49,70]⟩⟩ 321) :: (Value.str ⟨⟨[32]⟩⟩ 1450) :: (Value.str ⟨⟨[33]⟩⟩ 1453) :: (Value.str ⟨⟨[34]⟩⟩ 1456) :: (Value.str ⟨⟨[35]⟩⟩ 1459) :: (Value.str ⟨⟨[36]⟩⟩ 1462) :: (Value.str ⟨⟨[37]⟩⟩ 1465) :: (Value.str ⟨⟨[38]⟩⟩ 1468) :: (Value.str ⟨⟨[39]⟩⟩ 1471) :: (Value.str ⟨⟨[40]⟩⟩ 1474) :: (Value.str ⟨⟨[41]⟩⟩ 1477) :: (Value.str ⟨⟨[42]⟩⟩ 1480) :: (Value.str ⟨⟨[43]⟩⟩ 1483) :: (Value.str ⟨⟨[44]⟩⟩ 1486) :: (Value.str ⟨⟨[45]⟩⟩ 1489) :: (Value.str ⟨⟨[46]⟩⟩ 1492) :: (Value.str ⟨⟨[47]⟩⟩ 1495) :: (Value.str ⟨⟨[48]⟩⟩ 1498) :: (Value.str ⟨⟨[49]⟩⟩ 1501) :: (Value.str ⟨⟨[50]⟩⟩ 1504) :: (Value.str ⟨⟨[51]⟩⟩ 1507) :: (Value.str ⟨⟨[52]⟩⟩ 1510) :: (Value.str ⟨⟨[53]⟩⟩ 1513) :: (Value.str ⟨⟨[54]⟩⟩ 1516) :: (Value.str ⟨⟨[55]⟩⟩ 1519) :: (Value.str ⟨⟨[56]⟩⟩ 1522) :: (Value.str ⟨⟨[57]⟩⟩ 1525) :: (Value.str ⟨⟨[58]⟩⟩ 1528) :: (Value.str ⟨⟨[59]⟩⟩ 1531) :: (Value.str ⟨⟨[60]⟩⟩ 1534) :: (Value.str ⟨⟨[61,51,68]⟩⟩ 441) :: (Value.str ⟨⟨[62]⟩⟩ 1537) :: (Value.str ⟨⟨[63]⟩⟩ 1540) :: (Value.str ⟨⟨[64]⟩⟩ 1543) :: (Value.str ⟨⟨[65]⟩⟩ 1546) :: (Value.str ⟨⟨[66]⟩⟩ 1549) :: (Value.str ⟨⟨[67]⟩⟩ 1552) :: (Value.str ⟨⟨[68]⟩⟩ 1555) :: (Value.str ⟨⟨[69]⟩⟩ 1558) :: (Value.str ⟨⟨[70]⟩⟩ 1561) :: (Value.str ⟨⟨[71]⟩⟩ 1564) :: (Value.str ⟨⟨[72]⟩⟩ 1567) :: (Value.str ⟨⟨[73]⟩⟩ 1570) :: (Value.str ⟨⟨[74]⟩⟩ 1573) :: (Value.str ⟨⟨[75]⟩⟩ 1576) :: (Value.str ⟨⟨[76]⟩⟩ 1579) :: (Value.str ⟨⟨[77]⟩⟩ 1582) :: (Value.str ⟨⟨[78]⟩⟩ 1585) :: (Value.str ⟨⟨[79]⟩⟩ 1588) :: (Value.str ⟨⟨[80]⟩⟩ 1591) :: (Value.str ⟨⟨[81]⟩⟩ 1594) :: (Value.str ⟨⟨[82]⟩⟩ 1597) :: (Value.str ⟨⟨[83]⟩⟩ 1600) :: (Value.str ⟨⟨[84]⟩⟩ 1603) :: (Value.str ⟨⟨[85]⟩⟩ 1606) :: (Value.str ⟨⟨[86]⟩⟩ 1609) :: (Value.str ⟨⟨[87]⟩⟩ 1612) :: (Value.str ⟨⟨[88]⟩⟩ 1615) :: (Value.str ⟨⟨[89]⟩⟩ 1618) :: (Value.str ⟨⟨[90]⟩⟩ 1621) :: (Value.str ⟨⟨[91]⟩⟩ 1624) :: (Value.str ⟨⟨[92]⟩⟩ 1627) :: (Value.str ⟨⟨[93]⟩⟩ 1630) :: (Value.str ⟨⟨[94]⟩⟩ 1633) :: (Value.str ⟨⟨[95]⟩⟩ 1636) :: (Value.str ⟨⟨[96]⟩⟩ 1639) :: (Value.str ⟨⟨[97]⟩⟩ 1642) :: (Value.str ⟨⟨[98]⟩⟩ 1645) :: (Value.str ⟨⟨[99]⟩⟩ 1648) :: (Value.str ⟨⟨[100]⟩⟩ 1651) :: (Value.str ⟨⟨[101]⟩⟩ 1654) :: (Value.str ⟨⟨[102]⟩⟩ 1657) :: (Value.str ⟨⟨[103]⟩⟩ 1660) :: (Value.str ⟨⟨[104]⟩⟩ 1663) :: (Value.str ⟨⟨[105]⟩⟩ 1666) :: (Value.str ⟨⟨[106]⟩⟩ 1669) :: (Value.str ⟨⟨[107]⟩⟩ 1672) :: (Value.str ⟨⟨[108]⟩⟩ 1675) :: (Value.str ⟨⟨[109]⟩⟩ 1678) :: (Value.str ⟨⟨[110]⟩⟩ 1681) :: (Value.str ⟨⟨[111]⟩⟩ 1684) :: (Value.str ⟨⟨[112]⟩⟩ 1687) :: (Value.str ⟨⟨[113]⟩⟩ 1690) :: (Value.str ⟨⟨[114]⟩⟩ 1693) :: (Value.str ⟨⟨[115]⟩⟩ 1696) :: (Value.str ⟨⟨[116]⟩⟩ 1699) :: (Value.str ⟨⟨[117]⟩⟩ 1702) :: (Value.str ⟨⟨[118]⟩⟩ 1705) :: (Value.str ⟨⟨[119]⟩⟩ 1708) :: (Value.str ⟨⟨[120]⟩⟩ 1711) :: (Value.str ⟨⟨[121]⟩⟩ 1714) :: (Value.str ⟨⟨[122]⟩⟩ 1717) :: (Value.str ⟨⟨[123]⟩⟩ 1720) :: (Value.str ⟨⟨[124]⟩⟩ 1723) :: (Value.str ⟨⟨[125]⟩⟩ 1726) :: (Value.str ⟨⟨[126]⟩⟩ 1729) :: (Value.str ⟨⟨[61,55,70]⟩⟩ 705) :: (Value.str ⟨⟨[61,56,48]⟩⟩ 709) :: (Value.str ⟨⟨[61,56,49]⟩⟩ 713) :: (Value.str ⟨⟨[61,56,50]⟩⟩ 717) :: (Value.str ⟨⟨[61,56,51]⟩⟩ 721) :: (Value.str ⟨⟨[61,56,52]⟩⟩ 725) :: (Value.str ⟨⟨[61,56,53]⟩⟩ 729) :: (Value.str ⟨⟨[61,56,54]⟩⟩ 733) :: (Value.str ⟨⟨[61,56,55]⟩⟩ 737) :: (Value.str ⟨⟨[61,56,56]⟩⟩ 741) :: (Value.str ⟨⟨[61,56,57]⟩⟩ 745) :: (Value.str ⟨⟨[61,56,65]⟩⟩ 749) :: (Value.str ⟨⟨[61,56,66]⟩⟩ 753) :: (Value.str ⟨⟨[61,56,67]⟩⟩ 757) :: (Value.str ⟨⟨[61,56,68]⟩⟩ 761) :: (Value.str ⟨⟨[61,56,69]⟩⟩ 765) :: (Value.str ⟨⟨[61,56,70]⟩⟩ 769) :: (Value.str ⟨⟨[61,57,48]⟩⟩ 773) :: (Value.str ⟨⟨[61,57,49]⟩⟩ 777) :: (Value.str ⟨⟨[61,57,50]⟩⟩ 781) :: (Value.str ⟨⟨[61,57,51]⟩⟩ 785) :: (Value.str ⟨⟨[61,57,52]⟩⟩ 789) :: (Value.str ⟨⟨[61,57,53]⟩⟩ 793) :: (Value.str ⟨⟨[61,57,54]⟩⟩ 797) :: (Value.str ⟨⟨[61,57,55]⟩⟩ 801) :: (Value.str ⟨⟨[61,57,56]⟩⟩ 805) :: (Value.str ⟨⟨[61,57,57]⟩⟩ 809) :: (Value.str ⟨⟨[61,57,65]⟩⟩ 813) :: (Value.str ⟨⟨[61,57,66]⟩⟩ 817) :: (Value.str ⟨⟨[61,57,67]⟩⟩ 821) :: (Value.str ⟨⟨[61,57,68]⟩⟩ 825) :: (Value.str ⟨⟨[61,57,69]⟩⟩ 829) :: (Value.str ⟨⟨[61,57,70]⟩⟩ 833) :: (Value.str ⟨⟨[61,65,48]⟩⟩ 837) :: (Value.str ⟨⟨[61,65,49]⟩⟩ 841) :: (Value.str ⟨⟨[61,65,50]⟩⟩ 845) :: (Value.str ⟨⟨[61,65,51]⟩⟩ 849) :: (Value.str ⟨⟨[61,65,52]⟩⟩ 853) :: (Value.str ⟨⟨[61,65,53]⟩⟩ 857) :: (Value.str ⟨⟨[61,65,54]⟩⟩ 861) :: (Value.str ⟨⟨[61,65,55]⟩⟩ 865) :: (Value.str ⟨⟨[61,65,56]⟩⟩ 869) :: (Value.str ⟨⟨[61,65,57]⟩⟩ 873) :: (Value.str ⟨⟨[61,65,65]⟩⟩ 877) :: (Value.str ⟨⟨[61,65,66]⟩⟩ 881) :: (Value.str ⟨⟨[61,65,67]⟩⟩ 885) :: (Value.str ⟨⟨[61,65,68]⟩⟩ 889) :: (Value.str ⟨⟨[61,65,69]⟩⟩ 893) :: (Value.str ⟨⟨[61,65,70]⟩⟩ 897) :: (Value.str ⟨⟨[61,66,48]⟩⟩ 901) :: (Value.str ⟨⟨[61,66,49]⟩⟩ 905) :: (Value.str ⟨⟨[61,66,50]⟩⟩ 909) :: (Value.str ⟨⟨[61,66,51]⟩⟩ 913) :: (Value.str ⟨⟨[61,66,52]⟩⟩ 917) :: (Value.str ⟨⟨[61,66,53]⟩⟩ 921) :: (Value.str ⟨⟨[61,66,54]⟩⟩ 925) :: (Value.str ⟨⟨[61,66,55]⟩⟩ 929) :: (Value.str ⟨⟨[61,66,56]⟩⟩ 933) :: (Value.str ⟨⟨[61,66,57]⟩⟩ 937) :: (Value.str ⟨⟨[61,66,65]⟩⟩ 941) :: (Value.str ⟨⟨[61,66,66]⟩⟩ 945) :: (Value.str ⟨⟨[61,66,67]⟩⟩ 949) :: (Value.str ⟨⟨[61,66,68]⟩⟩ 953) :: (Value.str ⟨⟨[61,66,69]⟩⟩ 957) :: (Value.str ⟨⟨[61,66,70]⟩⟩ 961) :: (Value.str ⟨⟨[61,67,48]⟩⟩ 965) :: (Value.str ⟨⟨[61,67,49]⟩⟩ 969) :: (Value.str ⟨⟨[61,67,50]⟩⟩ 973) :: (Value.str ⟨⟨[61,67,51]⟩⟩ 977) :: (Value.str ⟨⟨[61,67,52]⟩⟩ 981) :: (Value.str ⟨⟨[61,67,53]⟩⟩ 985) :: (Value.str ⟨⟨[61,67,54]⟩⟩ 989) :: (Value.str ⟨⟨[61,67,55]⟩⟩ 993) :: (Value.str ⟨⟨[61,67,56]⟩⟩ 997) :: (Value.str ⟨⟨[61,67,57]⟩⟩ 1001) :: (Value.str ⟨⟨[61,67,65]⟩⟩ 1005) :: (Value.str ⟨⟨[61,67,66]⟩⟩ 1009) :: (Value.str ⟨⟨[61,67,67]⟩⟩ 1013) :: (Value.str ⟨⟨[61,67,68]⟩⟩ 1017) :: (Value.str ⟨⟨[61,67,69]⟩⟩ 1021) :: (Value.str ⟨⟨[61,67,70]⟩⟩ 1025) :: (Value.str ⟨⟨[61,68,48]⟩⟩ 1029) :: (Value.str ⟨⟨[61,68,49]⟩⟩ 1033) :: (Value.str ⟨⟨[61,68,50]⟩⟩ 1037) :: (Value.str ⟨⟨[61,68,51]⟩⟩ 1041) :: (Value.str ⟨⟨[61,68,52]⟩⟩ 1045) :: (Value.str ⟨⟨[61,68,53]⟩⟩ 1049) :: (Value.str ⟨⟨[61,68,54]⟩⟩ 1053) :: (Value.str ⟨⟨[61,68,55]⟩⟩ 1057) :: (Value.str ⟨⟨[61,68,56]⟩⟩ 1061) :: (Value.str ⟨⟨[61,68,57]⟩⟩ 1065) :: (Value.str ⟨⟨[61,68,65]⟩⟩ 1069) :: (Value.str ⟨⟨[61,68,66]⟩⟩ 1073) :: (Value.str ⟨⟨[61,68,67]⟩⟩ 1077) :: (Value.str ⟨⟨[61,68,68]⟩⟩ 1081) :: (Value.str ⟨⟨[61,68,69]⟩⟩ 1085) :: (Value.str ⟨⟨[61,68,70]⟩⟩ 1089) :: (Value.str ⟨⟨[61,69,48]⟩⟩ 1093) :: (Value.str ⟨⟨[61,69,49]⟩⟩ 1097) :: (Value.str ⟨⟨[61,69,50]⟩⟩ 1101) :: (Value.str ⟨⟨[61,69,51]⟩⟩ 1105) :: (Value.str ⟨⟨[61,69,52]⟩⟩ 1109) :: (Value.str ⟨⟨[61,69,53]⟩⟩ 1113) :: (Value.str ⟨⟨[61,69,54]⟩⟩ 1117) :: (Value.str ⟨⟨[61,69,55]⟩⟩ 1121) :: (Value.str ⟨⟨[61,69,56]⟩⟩ 1125) :: (Value.str ⟨⟨[61,69,57]⟩⟩ 1129) :: (Value.str ⟨⟨[61,69,65]⟩⟩ 1133) :: (Value.str ⟨⟨[61,69,66]⟩⟩ 1137) :: (Value.str ⟨⟨[61,69,67]⟩⟩ 1141) :: (Value.str ⟨⟨[61,69,68]⟩⟩ 1145) :: (Value.str ⟨⟨[61,69,69]⟩⟩ 1149) :: (Value.str ⟨⟨[61,69,70]⟩⟩ 1153) :: (Value.str ⟨⟨[61,70,48]⟩⟩ 1157) :: (Value.str ⟨⟨[61,70,49]⟩⟩ 1161) :: (Value.str ⟨⟨[61,70,50]⟩⟩ 1165) :: (Value.str ⟨⟨[61,70,51]⟩⟩ 1169) :: (Value.str ⟨⟨[61,70,52]⟩⟩ 1173) :: (Value.str ⟨⟨[61,70,53]⟩⟩ 1177) :: (Value.str ⟨⟨[61,70,54]⟩⟩ 1181) :: (Value.str ⟨⟨[61,70,55]⟩⟩ 1185) :: (Value.str ⟨⟨[61,70,56]⟩⟩ 1189) :: (Value.str ⟨⟨[61,70,57]⟩⟩ 1193) :: (Value.str ⟨⟨[61,70,65]⟩⟩ 1197) :: (Value.str ⟨⟨[61,70,66]⟩⟩ 1201) :: (Value.str ⟨⟨[61,70,67]⟩⟩ 1205) :: (Value.str ⟨⟨[61,70,68]⟩⟩ 1209) :: (Value.str ⟨⟨[61,70,69]⟩⟩ 1213) :: (Value.str ⟨⟨[61,70,70]⟩⟩ 1217) :: [])) 0) (List.toArray []))
noncomputable def o_449 (P : Params) : Obj := (Obj.mk (Value.type PySem.W.SL.s5856160107412720595x4) Option.none (Data.fields (List.toArray [(Value.str ⟨⟨[95,95,114,101,112,114,95,95]⟩⟩ 1802), (Value.str ⟨⟨[95,85,110,107,110,111,119,110,46,95,95,114,101,112,114,95,95]⟩⟩ 1803), (Value.str ⟨⟨[47,99,108,97,105,109,47,99,117,116,46,112,121]⟩⟩ 1804), (Value.int 96 0), (Value.int 1 0), (Value.int 0 0), (Value.int 0 0), (Value.int 3 0), (Value.ref 73), (Value.bool Bool.true), (Value.int 181 0), (Value.ref 74), Value.none, (Value.ref 75), (Value.ref 76), (Value.ref 77), (Value.int 1806 0), (Value.int 96 0), (Value.str ⟨⟨[47,99,108,97,105,109,47,99,117,116,46,112,121]⟩⟩ 1807)])) (List.toArray []))
noncomputable def o_483 (P : Params) : Obj := (Obj.mk (Value.type PySem.W.SL.s2766695959194262286x5) Option.none (Data.seq (List.toArray [(Value.str ⟨⟨[108,97,98,101,108]⟩⟩ 1850), (Value.str ⟨⟨[116,101,120,116]⟩⟩ 1851), (Value.str ⟨⟨[119,105,100,116,104]⟩⟩ 1852)]) 0) (List.toArray []))
noncomputable def o_429 (P : Params) : Obj := (Obj.mk (Value.type PySem.W.SL.s2766695959194262286x5) Option.none (Data.seq (List.toArray []) 0) (List.toArray []))
noncomputable def o_465 (P : Params) : Obj := (Obj.mk (Value.type PySem.W.SL.s5856160107412720595x4) Option.none (Data.fields (List.toArray [(Value.str ⟨⟨[95,103,101,116,95,110,97,109,101,95,105,110,102,111]⟩⟩ 1818), (Value.str ⟨⟨[95,103,101,116,95,110,97,109,101,95,105,110,102,111]⟩⟩ 1819), (Value.str ⟨⟨[47,99,108,97,105,109,47,99,117,116,46,112,121]⟩⟩ 1820), (Value.int 99 0), (Value.int 2 0), (Value.int 0 0), (Value.int 0 0), (Value.int 11 0), (Value.ref 89), (Value.bool Bool.true), (Value.int 181 0), (Value.ref 90), Value.none, (Value.ref 91), (Value.ref 92), (Value.ref 93), (Value.int 1825 0), (Value.int 99 0), (Value.str ⟨⟨[47,99,108,97,105,109,47,99,117,116,46,112,121]⟩⟩ 1826)])) (List.toArray []))
noncomputable def o_499 (P : Params) : Obj := (Obj.mk (Value.type PySem.W.SL.s7174869446012820540x8) Option.none (Data.func (FuncData.mk ⟨⟨[95,108,97,119,95,112,97,114,116,115]⟩⟩ ⟨⟨[95,108,97,119,95,112,97,114,116,115]⟩⟩ (fnA 31) (.stmts (fnB 31)) (fnS 31) 3 [] Value.none Value.none Value.none (Value.str ⟨⟨[108,97,119,95,105,107,48,48,51,52,95,48,49]⟩⟩ 1839) Option.none (Value.ref 125) Value.none 0)) (List.toArray []))
noncomputable def tree_509 (P : Params) : BT := (BT.node (o_42 P) (BT.node (o_43 P) (BT.node (o_479 P) (BT.node (o_49 P) (BT.node (o_62 P) (BT.node (o_398 P) (BT.node (o_430 P) (BT.node (o_500 P) BT.nil BT.nil) BT.nil) (BT.node (o_466 P) BT.nil BT.nil)) (BT.node (o_414 P) (BT.node (o_450 P) BT.nil BT.nil) (BT.node (o_484 P) BT.nil BT.nil))) (BT.node (o_363 P) (BT.node (o_406 P) (BT.node (o_442 P) (BT.node (o_508 P) BT.nil BT.nil) BT.nil) (BT.node (o_474 P) BT.nil BT.nil)) (BT.node (o_422 P) (BT.node (o_458 P) BT.nil BT.nil) (BT.node (o_492 P) BT.nil BT.nil)))) (BT.node (o_53 P) (BT.node (o_66 P) (BT.node (o_402 P) (BT.node (o_438 P) (BT.node (o_504 P) BT.nil BT.nil) BT.nil) (BT.node (o_470 P) BT.nil BT.nil)) (BT.node (o_418 P) (BT.node (o_454 P) BT.nil BT.nil) (BT.node (o_488 P) BT.nil BT.nil))) (BT.node (o_369 P) (BT.node (o_410 P) (BT.node (o_446 P) BT.nil BT.nil) (BT.node (o_478 P) BT.nil BT.nil)) (BT.node (o_426 P) (BT.node (o_462 P) BT.nil BT.nil) (BT.node (o_496 P) BT.nil BT.nil))))) (BT.node (o_47 P) (BT.node (o_51 P) (BT.node (o_64 P) (BT.node (o_400 P) (BT.node (o_432 P) (BT.node (o_502 P) BT.nil BT.nil) BT.nil) (BT.node (o_468 P) BT.nil BT.nil)) (BT.node (o_416 P) (BT.node (o_452 P) BT.nil BT.nil) (BT.node (o_486 P) BT.nil BT.nil))) (BT.node (o_367 P) (BT.node (o_408 P) (BT.node (o_444 P) BT.nil BT.nil) (BT.node (o_476 P) BT.nil BT.nil)) (BT.node (o_424 P) (BT.node (o_460 P) BT.nil BT.nil) (BT.node (o_494 P) BT.nil BT.nil)))) (BT.node (o_55 P) (BT.node (o_361 P) (BT.node (o_404 P) (BT.node (o_440 P) (BT.node (o_506 P) BT.nil BT.nil) BT.nil) (BT.node (o_472 P) BT.nil BT.nil)) (BT.node (o_420 P) (BT.node (o_456 P) BT.nil BT.nil) (BT.node (o_490 P) BT.nil BT.nil))) (BT.node (o_383 P) (BT.node (o_412 P) (BT.node (o_448 P) BT.nil BT.nil) (BT.node (o_482 P) BT.nil BT.nil)) (BT.node (o_428 P) (BT.node (o_464 P) BT.nil BT.nil) (BT.node (o_498 P) BT.nil BT.nil)))))) (BT.node (o_44 P) (BT.node (o_46 P) (BT.node (o_50 P) (BT.node (o_63 P) (BT.node (o_399 P) (BT.node (o_431 P) (BT.node (o_501 P) BT.nil BT.nil) BT.nil) (BT.node (o_467 P) BT.nil BT.nil)) (BT.node (o_415 P) (BT.node (o_451 P) BT.nil BT.nil) (BT.node (o_485 P) BT.nil BT.nil))) (BT.node (o_381 P) (BT.node (o_407 P) (BT.node (o_443 P) (BT.node (o_509 P) BT.nil BT.nil) BT.nil) (BT.node (o_475 P) BT.nil BT.nil)) (BT.node (o_423 P) (BT.node (o_459 P) BT.nil BT.nil) (BT.node (o_493 P) BT.nil BT.nil)))) (BT.node (o_480 P) (BT.node (o_67 P) (BT.node (o_403 P) (BT.node (o_439 P) (BT.node (o_505 P) BT.nil BT.nil) BT.nil) (BT.node (o_471 P) BT.nil BT.nil)) (BT.node (o_419 P) (BT.node (o_455 P) BT.nil BT.nil) (BT.node (o_489 P) BT.nil BT.nil))) (BT.node (o_382 P) (BT.node (o_411 P) (BT.node (o_447 P) BT.nil BT.nil) (BT.node (o_481 P) BT.nil BT.nil)) (BT.node (o_427 P) (BT.node (o_463 P) BT.nil BT.nil) (BT.node (o_497 P) BT.nil BT.nil))))) (BT.node (o_48 P) (BT.node (o_52 P) (BT.node (o_65 P) (BT.node (o_401 P) (BT.node (o_437 P) (BT.node (o_503 P) BT.nil BT.nil) BT.nil) (BT.node (o_469 P) BT.nil BT.nil)) (BT.node (o_417 P) (BT.node (o_453 P) BT.nil BT.nil) (BT.node (o_487 P) BT.nil BT.nil))) (BT.node (o_368 P) (BT.node (o_409 P) (BT.node (o_445 P) BT.nil BT.nil) (BT.node (o_477 P) BT.nil BT.nil)) (BT.node (o_425 P) (BT.node (o_461 P) BT.nil BT.nil) (BT.node (o_495 P) BT.nil BT.nil)))) (BT.node (o_56 P) (BT.node (o_378 P) (BT.node (o_405 P) (BT.node (o_441 P) (BT.node (o_507 P) BT.nil BT.nil) BT.nil) (BT.node (o_473 P) BT.nil BT.nil)) (BT.node (o_421 P) (BT.node (o_457 P) BT.nil BT.nil) (BT.node (o_491 P) BT.nil BT.nil))) (BT.node (o_384 P) (BT.node (o_413 P) (BT.node (o_449 P) BT.nil BT.nil) (BT.node (o_483 P) BT.nil BT.nil)) (BT.node (o_429 P) (BT.node (o_465 P) BT.nil BT.nil) (BT.node (o_499 P) BT.nil BT.nil)))))))
noncomputable def heap_510 (P : Params) : Heap := (Heap.mk ⟨((o_42 P) :: (o_43 P) :: (o_44 P) :: (o_479 P) :: (o_46 P) :: (o_47 P) :: (o_48 P) :: (o_49 P) :: (o_50 P) :: (o_51 P) :: (o_52 P) :: (o_53 P) :: (o_480 P) :: (o_55 P) :: (o_56 P) :: (o_62 P) :: (o_63 P) :: (o_64 P) :: (o_65 P) :: (o_66 P) :: (o_67 P) :: (o_361 P) :: (o_378 P) :: (o_363 P) :: (o_381 P) :: (o_367 P) :: (o_368 P) :: (o_369 P) :: (o_382 P) :: (o_383 P) :: (o_384 P) :: (o_398 P) :: (o_399 P) :: (o_400 P) :: (o_401 P) :: (o_402 P) :: (o_403 P) :: (o_404 P) :: (o_405 P) :: (o_406 P) :: (o_407 P) :: (o_408 P) :: (o_409 P) :: (o_410 P) :: (o_411 P) :: (o_412 P) :: (o_413 P) :: (o_414 P) :: (o_415 P) :: (o_416 P) :: (o_417 P) :: (o_418 P) :: (o_419 P) :: (o_420 P) :: (o_421 P) :: (o_422 P) :: (o_423 P) :: (o_424 P) :: (o_425 P) :: (o_426 P) :: (o_427 P) :: (o_428 P) :: (o_429 P) :: (o_430 P) :: (o_431 P) :: (o_432 P) :: (o_437 P) :: (o_438 P) :: (o_439 P) :: (o_440 P) :: (o_441 P) :: (o_442 P) :: (o_443 P) :: (o_444 P) :: (o_445 P) :: (o_446 P) :: (o_447 P) :: (o_448 P) :: (o_449 P) :: (o_450 P) :: (o_451 P) :: (o_452 P) :: (o_453 P) :: (o_454 P) :: (o_455 P) :: (o_456 P) :: (o_457 P) :: (o_458 P) :: (o_459 P) :: (o_460 P) :: (o_461 P) :: (o_462 P) :: (o_463 P) :: (o_464 P) :: (o_465 P) :: (o_466 P) :: (o_467 P) :: (o_468 P) :: (o_469 P) :: (o_470 P) :: (o_471 P) :: (o_472 P) :: (o_473 P) :: (o_474 P) :: (o_475 P) :: (o_476 P) :: (o_477 P) :: (o_478 P) :: (o_481 P) :: (o_482 P) :: (o_483 P) :: (o_484 P) :: (o_485 P) :: (o_486 P) :: (o_487 P) :: (o_488 P) :: (o_489 P) :: (o_490 P) :: (o_491 P) :: (o_492 P) :: (o_493 P) :: (o_494 P) :: (o_495 P) :: (o_496 P) :: (o_497 P) :: (o_498 P) :: (o_499 P) :: (o_500 P) :: (o_501 P) :: (o_502 P) :: (o_503 P) :: (o_504 P) :: (o_505 P) :: (o_506 P) :: (o_507 P) :: (o_508 P) :: (o_509 P) :: [])⟩ (Life.mk [] [] [] 0 [] [] Bool.false (List.toArray []) [] 0 Bool.false Bool.false Bool.false 0 [2000, 10, 10] Bool.false 0 Bool.true [] [] 0 Bool.false))
noncomputable def o_530 (P : Params) : Obj := (Obj.mk (Value.type PySem.W.SL.s14018661285674007319x4) Option.none (Data.dict (List.toArray ((DictEntry.mk (PyData.keyHash P ⟨⟨[95,95,110,97,109,101,95,95]⟩⟩) (Value.str ⟨⟨[95,95,110,97,109,101,95,95]⟩⟩ 1) (Value.str ⟨⟨[98,117,105,108,116,105,110,115]⟩⟩ 160)) :: (DictEntry.mk (PyData.keyHash P ⟨⟨[95,95,100,111,99,95,95]⟩⟩) (Value.str ⟨⟨[95,95,100,111,99,95,95]⟩⟩ 2) (Value.builtin "builtins.__doc__:str#opaque")) :: (DictEntry.mk (PyData.keyHash P ⟨⟨[95,95,112,97,99,107,97,103,101,95,95]⟩⟩) (Value.str ⟨⟨[95,95,112,97,99,107,97,103,101,95,95]⟩⟩ 3) (Value.builtin "builtins.__package__:str#opaque")) :: (DictEntry.mk (PyData.keyHash P ⟨⟨[95,95,108,111,97,100,101,114,95,95]⟩⟩) (Value.str ⟨⟨[95,95,108,111,97,100,101,114,95,95]⟩⟩ 4) (Value.builtin "builtins.__loader__:shared#opaque")) :: (DictEntry.mk (PyData.keyHash P ⟨⟨[95,95,115,112,101,99,95,95]⟩⟩) (Value.str ⟨⟨[95,95,115,112,101,99,95,95]⟩⟩ 5) (Value.builtin PySem.W.SL.s11665532747177232413x24)) :: (DictEntry.mk (PyData.keyHash P ⟨⟨[95,95,98,117,105,108,100,95,99,108,97,115,115,95,95]⟩⟩) (Value.str ⟨⟨[95,95,98,117,105,108,100,95,99,108,97,115,115,95,95]⟩⟩ 6) (Value.builtin PySem.W.SL.s15183661809925369436x15)) :: (DictEntry.mk (PyData.keyHash P ⟨⟨[95,95,105,109,112,111,114,116,95,95]⟩⟩) (Value.str ⟨⟨[95,95,105,109,112,111,114,116,95,95]⟩⟩ 7) (Value.builtin PySem.W.SL.s13915890719876406383x10)) :: (DictEntry.mk (PyData.keyHash P ⟨⟨[97,98,115]⟩⟩) (Value.str ⟨⟨[97,98,115]⟩⟩ 8) (Value.builtin PySem.W.SL.s13459172003223722735x3)) :: (DictEntry.mk (PyData.keyHash P ⟨⟨[97,108,108]⟩⟩) (Value.str ⟨⟨[97,108,108]⟩⟩ 9) (Value.builtin PySem.W.SL.s10557405761357834076x3)) :: (DictEntry.mk (PyData.keyHash P ⟨⟨[97,110,121]⟩⟩) (Value.str ⟨⟨[97,110,121]⟩⟩ 10) (Value.builtin PySem.W.SL.s4233737765568776869x3)) :: (DictEntry.mk (PyData.keyHash P ⟨⟨[97,115,99,105,105]⟩⟩) (Value.str ⟨⟨[97,115,99,105,105]⟩⟩ 11) (Value.builtin PySem.W.SL.s2508922471967985374x5)) :: (DictEntry.mk (PyData.keyHash P ⟨⟨[98,105,110]⟩⟩) (Value.str ⟨⟨[98,105,110]⟩⟩ 12) (Value.builtin PySem.W.SL.s15574269061696679450x3)) :: (DictEntry.mk (PyData.keyHash P ⟨⟨[98,114,101,97,107,112,111,105,110,116]⟩⟩) (Value.str ⟨⟨[98,114,101,97,107,112,111,105,110,116]⟩⟩ 13) (Value.builtin PySem.W.SL.s6016482663378992977x10)) :: (DictEntry.mk (PyData.keyHash P ⟨⟨[99,97,108,108,97,98,108,101]⟩⟩) (Value.str ⟨⟨[99,97,108,108,97,98,108,101]⟩⟩ 14) (Value.builtin PySem.W.SL.s5596568736180474577x8)) :: (DictEntry.mk (PyData.keyHash P ⟨⟨[99,104,114]⟩⟩) (Value.str ⟨⟨[99,104,114]⟩⟩ 15) (Value.builtin PySem.W.SL.s2839554839881490554x3)) :: (DictEntry.mk (PyData.keyHash P ⟨⟨[99,111,109,112,105,108,101]⟩⟩) (Value.str ⟨⟨[99,111,109,112,105,108,101]⟩⟩ 16) (Value.builtin PySem.W.SL.s725004073602090463x7)) :: (DictEntry.mk (PyData.keyHash P ⟨⟨[100,101,108,97,116,116,114]⟩⟩) (Value.str ⟨⟨[100,101,108,97,116,116,114]⟩⟩ 17) (Value.builtin PySem.W.SL.s9436932552931045734x7)) :: (DictEntry.mk (PyData.keyHash P ⟨⟨[100,105,114]⟩⟩) (Value.str ⟨⟨[100,105,114]⟩⟩ 18) (Value.builtin PySem.W.SL.s2754603736356183583x3)) :: (DictEntry.mk (PyData.keyHash P ⟨⟨[100,105,118,109,111,100]⟩⟩) (Value.str ⟨⟨[100,105,118,109,111,100]⟩⟩ 19) (Value.builtin PySem.W.SL.s15185746759980889043x6)) :: (DictEntry.mk (PyData.keyHash P ⟨⟨[101,118,97,108]⟩⟩) (Value.str ⟨⟨[101,118,97,108]⟩⟩ 20) (Value.builtin PySem.W.SL.s8192189862530294059x4)) :: (DictEntry.mk (PyData.keyHash P ⟨⟨[101,120,101,99]⟩⟩) (Value.str ⟨⟨[101,120,101,99]⟩⟩ 21) (Value.builtin PySem.W.SL.s7038307821325472102x4)) :: (DictEntry.mk (PyData.keyHash P ⟨⟨[102,111,114,109,97,116]⟩⟩) (Value.str ⟨⟨[102,111,114,109,97,116]⟩⟩ 22) (Value.builtin PySem.W.SL.s5662562618415449548x6)) :: (DictEntry.mk (PyData.keyHash P ⟨⟨[103,101,116,97,116,116,114]⟩⟩) (Value.str ⟨⟨[103,101,116,97,116,116,114]⟩⟩ 23) (Value.builtin PySem.W.SL.s15281542589158584767x7)) :: (DictEntry.mk (PyData.keyHash P ⟨⟨[103,108,111,98,97,108,115]⟩⟩) (Value.str ⟨⟨[103,108,111,98,97,108,115]⟩⟩ 24) (Value.builtin PySem.W.SL.s17651547275483570877x7)) :: (DictEntry.mk (PyData.keyHash P ⟨⟨[104,97,115,97,116,116,114]⟩⟩) (Value.str ⟨⟨[104,97,115,97,116,116,114]⟩⟩ 25) (Value.builtin PySem.W.SL.s4036449017235975746x7)) :: (DictEntry.mk (PyData.keyHash P ⟨⟨[104,97,115,104]⟩⟩) (Value.str ⟨⟨[104,97,115,104]⟩⟩ 26) (Value.builtin PySem.W.SL.s8879979712987360175x4)) :: (DictEntry.mk (PyData.keyHash P ⟨⟨[104,101,120]⟩⟩) (Value.str ⟨⟨[104,101,120]⟩⟩ 27) (Value.builtin PySem.W.SL.s1801250619170735830x3)) :: (DictEntry.mk (PyData.keyHash P ⟨⟨[105,100]⟩⟩) (Value.str ⟨⟨[105,100]⟩⟩ 28) (Value.builtin PySem.W.SL.s17659931425627118568x2)) :: (DictEntry.mk (PyData.keyHash P ⟨⟨[105,110,112,117,116]⟩⟩) (Value.str ⟨⟨[105,110,112,117,116]⟩⟩ 29) (Value.builtin PySem.W.SL.s6063217899685152688x5)) :: (DictEntry.mk (PyData.keyHash P ⟨⟨[105,115,105,110,115,116,97,110,99,101]⟩⟩) (Value.str ⟨⟨[105,115,105,110,115,116,97,110,99,101]⟩⟩ 30) (Value.builtin PySem.W.SL.s8008927332132565319x10)) :: (DictEntry.mk (PyData.keyHash P ⟨⟨[105,115,115,117,98,99,108,97,115,115]⟩⟩) (Value.str ⟨⟨[105,115,115,117,98,99,108,97,115,115]⟩⟩ 31) (Value.builtin PySem.W.SL.s3544116645089599534x10)) :: (DictEntry.mk (PyData.keyHash P ⟨⟨[105,116,101,114]⟩⟩) (Value.str ⟨⟨[105,116,101,114]⟩⟩ 32) (Value.builtin PySem.W.SL.s13761710972054866084x4)) :: (DictEntry.mk (PyData.keyHash P ⟨⟨[97,105,116,101,114]⟩⟩) (Value.str ⟨⟨[97,105,116,101,114]⟩⟩ 33) (Value.builtin PySem.W.SL.s12896375587409280029x5)) :: (DictEntry.mk (PyData.keyHash P ⟨⟨[108,101,110]⟩⟩) (Value.str ⟨⟨[108,101,110]⟩⟩ 34) (Value.builtin PySem.W.SL.s13014049009108672802x3)) :: (DictEntry.mk (PyData.keyHash P ⟨⟨[108,111,99,97,108,115]⟩⟩) (Value.str ⟨⟨[108,111,99,97,108,115]⟩⟩ 35) (Value.builtin PySem.W.SL.s13935586738268321596x6)) :: (DictEntry.mk (PyData.keyHash P ⟨⟨[109,97,120]⟩⟩) (Value.str ⟨⟨[109,97,120]⟩⟩ 36) (Value.builtin PySem.W.SL.s8200498257699607233x3)) :: (DictEntry.mk (PyData.keyHash P ⟨⟨[109,105,110]⟩⟩) (Value.str ⟨⟨[109,105,110]⟩⟩ 37) (Value.builtin PySem.W.SL.s14114244577727609259x3)) :: (DictEntry.mk (PyData.keyHash P ⟨⟨[110,101,120,116]⟩⟩) (Value.str ⟨⟨[110,101,120,116]⟩⟩ 38) (Value.builtin PySem.W.SL.s1499430450269397089x4)) :: (DictEntry.mk (PyData.keyHash P ⟨⟨[97,110,101,120,116]⟩⟩) (Value.str ⟨⟨[97,110,101,120,116]⟩⟩ 39) (Value.builtin PySem.W.SL.s8755793994789770505x5)) :: (DictEntry.mk (PyData.keyHash P ⟨⟨[111,99,116]⟩⟩) (Value.str ⟨⟨[111,99,116]⟩⟩ 40) (Value.builtin PySem.W.SL.s15725212667919936108x3)) :: (DictEntry.mk (PyData.keyHash P ⟨⟨[111,114,100]⟩⟩) (Value.str ⟨⟨[111,114,100]⟩⟩ 41) (Value.builtin PySem.W.SL.s15791221867095933363x3)) :: (DictEntry.mk (PyData.keyHash P ⟨⟨[112,111,119]⟩⟩) (Value.str ⟨⟨[112,111,119]⟩⟩ 42) (Value.builtin PySem.W.SL.s81309575031448614x3)) :: (DictEntry.mk (PyData.keyHash P ⟨⟨[112,114,105,110,116]⟩⟩) (Value.str ⟨⟨[112,114,105,110,116]⟩⟩ 43) (Value.builtin PySem.W.SL.s8069831620301644142x5)) :: (DictEntry.mk (PyData.keyHash P ⟨⟨[114,101,112,114]⟩⟩) (Value.str ⟨⟨[114,101,112,114]⟩⟩ 44) (Value.builtin PySem.W.SL.s10061844253413749634x4)) :: (DictEntry.mk (PyData.keyHash P ⟨⟨[114,111,117,110,100]⟩⟩) (Value.str ⟨⟨[114,111,117,110,100]⟩⟩ 45) (Value.builtin PySem.W.SL.s9496514870978017513x5)) :: (DictEntry.mk (PyData.keyHash P ⟨⟨[115,101,116,97,116,116,114]⟩⟩) (Value.str ⟨⟨[115,101,116,97,116,116,114]⟩⟩ 46) (Value.builtin PySem.W.SL.s8899691144933366716x7)) :: (DictEntry.mk (PyData.keyHash P ⟨⟨[115,111,114,116,101,100]⟩⟩) (Value.str ⟨⟨[115,111,114,116,101,100]⟩⟩ 47) (Value.builtin PySem.W.SL.s15201008993051130160x6)) :: (DictEntry.mk (PyData.keyHash P ⟨⟨[115,117,109]⟩⟩) (Value.str ⟨⟨[115,117,109]⟩⟩ 48) (Value.builtin PySem.W.SL.s741896355592496720x3)) :: (DictEntry.mk (PyData.keyHash P ⟨⟨[118,97,114,115]⟩⟩) (Value.str ⟨⟨[118,97,114,115]⟩⟩ 49) (Value.builtin PySem.W.SL.s17925004256654032244x4)) :: (DictEntry.mk (PyData.keyHash P ⟨⟨[78,111,110,101]⟩⟩) (Value.str ⟨⟨[78,111,110,101]⟩⟩ 50) Value.none) :: (DictEntry.mk (PyData.keyHash P ⟨⟨[69,108,108,105,112,115,105,115]⟩⟩) (Value.str ⟨⟨[69,108,108,105,112,115,105,115]⟩⟩ 51) Value.ellipsis) :: (DictEntry.mk (PyData.keyHash P ⟨⟨[78,111,116,73,109,112,108,101,109,101,110,116,101,100]⟩⟩) (Value.str ⟨⟨[78,111,116,73,109,112,108,101,109,101,110,116,101,100]⟩⟩ 52) Value.notImplemented) :: (DictEntry.mk (PyData.keyHash P ⟨⟨[70,97,108,115,101]⟩⟩) (Value.str ⟨⟨[70,97,108,115,101]⟩⟩ 53) (Value.bool Bool.false)) :: (DictEntry.mk (PyData.keyHash P ⟨⟨[84,114,117,101]⟩⟩) (Value.str ⟨⟨[84,114,117,101]⟩⟩ 54) (Value.bool Bool.true)) :: (DictEntry.mk (PyData.keyHash P ⟨⟨[98,111,111,108]⟩⟩) (Value.str ⟨⟨[98,111,111,108]⟩⟩ 55) (Value.type PySem.W.SL.s11695548795398191787x4)) :: (DictEntry.mk (PyData.keyHash P ⟨⟨[109,101,109,111,114,121,118,105,101,119]⟩⟩) (Value.str ⟨⟨[109,101,109,111,114,121,118,105,101,119]⟩⟩ 56) (Value.type PySem.W.SL.s4156966113859768872x10)) :: (DictEntry.mk (PyData.keyHash P ⟨⟨[98,121,116,101,97,114,114,97,121]⟩⟩) (Value.str ⟨⟨[98,121,116,101,97,114,114,97,121]⟩⟩ 57) (Value.type PySem.W.SL.s9501651726347032510x9)) :: (DictEntry.mk (PyData.keyHash P ⟨⟨[98,121,116,101,115]⟩⟩) (Value.str ⟨⟨[98,121,116,101,115]⟩⟩ 58) (Value.type PySem.W.SL.s15722918466584999320x5)) :: (DictEntry.mk (PyData.keyHash P ⟨⟨[99,108,97,115,115,109,101,116,104,111,100]⟩⟩) (Value.str ⟨⟨[99,108,97,115,115,109,101,116,104,111,100]⟩⟩ 59) (Value.type PySem.W.SL.s591115383303110208x11)) :: (DictEntry.mk (PyData.keyHash P ⟨⟨[99,111,109,112,108,101,120]⟩⟩) (Value.str ⟨⟨[99,111,109,112,108,101,120]⟩⟩ 60) (Value.type PySem.W.SL.s15721156781594690315x7)) :: (DictEntry.mk (PyData.keyHash P ⟨⟨[100,105,99,116]⟩⟩) (Value.str ⟨⟨[100,105,99,116]⟩⟩ 61) (Value.type PySem.W.SL.s14018661285674007319x4)) :: (DictEntry.mk (PyData.keyHash P ⟨⟨[101,110,117,109,101,114,97,116,101]⟩⟩) (Value.str ⟨⟨[101,110,117,109,101,114,97,116,101]⟩⟩ 62) (Value.type PySem.W.SL.s14340494229221121180x9)) :: (DictEntry.mk (PyData.keyHash P ⟨⟨[102,105,108,116,101,114]⟩⟩) (Value.str ⟨⟨[102,105,108,116,101,114]⟩⟩ 63) (Value.type PySem.W.SL.s13429844117177748173x6)) :: (DictEntry.mk (PyData.keyHash P ⟨⟨[102,108,111,97,116]⟩⟩) (Value.str ⟨⟨[102,108,111,97,116]⟩⟩ 64) (Value.type PySem.W.SL.s16463266125957815391x5)) :: (DictEntry.mk (PyData.keyHash P ⟨⟨[102,114,111,122,101,110,115,101,116]⟩⟩) (Value.str ⟨⟨[102,114,111,122,101,110,115,101,116]⟩⟩ 65) (Value.type PySem.W.SL.s4922535414793169389x9)) :: (DictEntry.mk (PyData.keyHash P ⟨⟨[112,114,111,112,101,114,116,121]⟩⟩) (Value.str ⟨⟨[112,114,111,112,101,114,116,121]⟩⟩ 66) (Value.type PySem.W.SL.s8101838861749082086x8)) :: (DictEntry.mk (PyData.keyHash P ⟨⟨[105,110,116]⟩⟩) (Value.str ⟨⟨[105,110,116]⟩⟩ 67) (Value.type PySem.W.SL.s7066276694103001551x3)) :: (DictEntry.mk (PyData.keyHash P ⟨⟨[108,105,115,116]⟩⟩) (Value.str ⟨⟨[108,105,115,116]⟩⟩ 68) (Value.type PySem.W.SL.s9222952809800978799x4)) :: (DictEntry.mk (PyData.keyHash P ⟨⟨[109,97,112]⟩⟩) (Value.str ⟨⟨[109,97,112]⟩⟩ 69) (Value.type PySem.W.SL.s462964344163437139x3)) :: (DictEntry.mk (PyData.keyHash P ⟨⟨[111,98,106,101,99,116]⟩⟩) (Value.str ⟨⟨[111,98,106,101,99,116]⟩⟩ 70) (Value.type PySem.W.SL.s2742458400755230247x6)) :: (DictEntry.mk (PyData.keyHash P ⟨⟨[114,97,110,103,101]⟩⟩) (Value.str ⟨⟨[114,97,110,103,101]⟩⟩ 71) (Value.type PySem.W.SL.s1438033511350832697x5)) :: (DictEntry.mk (PyData.keyHash P ⟨⟨[114,101,118,101,114,115,101,100]⟩⟩) (Value.str ⟨⟨[114,101,118,101,114,115,101,100]⟩⟩ 72) (Value.type PySem.W.SL.s14365286008749172514x8)) :: (DictEntry.mk (PyData.keyHash P ⟨⟨[115,101,116]⟩⟩) (Value.str ⟨⟨[115,101,116]⟩⟩ 73) (Value.type PySem.W.SL.s3642769012341782148x3)) :: (DictEntry.mk (PyData.keyHash P ⟨⟨[115,108,105,99,101]⟩⟩) (Value.str ⟨⟨[115,108,105,99,101]⟩⟩ 74) (Value.type PySem.W.SL.s4674234679698826739x5)) :: (DictEntry.mk (PyData.keyHash P ⟨⟨[115,116,97,116,105,99,109,101,116,104,111,100]⟩⟩) (Value.str ⟨⟨[115,116,97,116,105,99,109,101,116,104,111,100]⟩⟩ 75) (Value.type PySem.W.SL.s16656946322747308186x12)) :: (DictEntry.mk (PyData.keyHash P ⟨⟨[115,116,114]⟩⟩) (Value.str ⟨⟨[115,116,114]⟩⟩ 76) (Value.type PySem.W.SL.s10796804682411823810x3)) :: (DictEntry.mk (PyData.keyHash P ⟨⟨[115,117,112,101,114]⟩⟩) (Value.str ⟨⟨[115,117,112,101,114]⟩⟩ 77) (Value.type PySem.W.SL.s4290257624100764138x5)) :: (DictEntry.mk (PyData.keyHash P ⟨⟨[116,117,112,108,101]⟩⟩) (Value.str ⟨⟨[116,117,112,108,101]⟩⟩ 78) (Value.type PySem.W.SL.s2766695959194262286x5)) :: (DictEntry.mk (PyData.keyHash P ⟨⟨[116,121,112,101]⟩⟩) (Value.str ⟨⟨[116,121,112,101]⟩⟩ 79) (Value.type PySem.W.SL.s17162191345867700912x4)) :: (DictEntry.mk (PyData.keyHash P ⟨⟨[122,105,112]⟩⟩) (Value.str ⟨⟨[122,105,112]⟩⟩ 80) (Value.type PySem.W.SL.s14339709457334898076x3)) :: (DictEntry.mk (PyData.keyHash P ⟨⟨[95,95,100,101,98,117,103,95,95]⟩⟩) (Value.str ⟨⟨[95,95,100,101,98,117,103,95,95]⟩⟩ 81) (Value.bool Bool.true)) :: (DictEntry.mk (PyData.keyHash P ⟨⟨[66,97,115,101,69,120,99,101,112,116,105,111,110]⟩⟩) (Value.str ⟨⟨[66,97,115,101,69,120,99,101,112,116,105,111,110]⟩⟩ 82) (Value.type PySem.W.SL.s4278001404047624695x13)) :: (DictEntry.mk (PyData.keyHash P ⟨⟨[66,97,115,101,69,120,99,101,112,116,105,111,110,71,114,111,117,112]⟩⟩) (Value.str ⟨⟨[66,97,115,101,69,120,99,101,112,116,105,111,110,71,114,111,117,112]⟩⟩ 83) (Value.type PySem.W.SL.s6585700554429387442x18)) :: (DictEntry.mk (PyData.keyHash P ⟨⟨[69,120,99,101,112,116,105,111,110]⟩⟩) (Value.str ⟨⟨[69,120,99,101,112,116,105,111,110]⟩⟩ 84) (Value.type PySem.W.SL.s5946037652744460706x9)) :: (DictEntry.mk (PyData.keyHash P ⟨⟨[71,101,110,101,114,97,116,111,114,69,120,105,116]⟩⟩) (Value.str ⟨⟨[71,101,110,101,114,97,116,111,114,69,120,105,116]⟩⟩ 85) (Value.type PySem.W.SL.s7410770068591931388x13)) :: (DictEntry.mk (PyData.keyHash P ⟨⟨[75,101,121,98,111,97,114,100,73,110,116,101,114,114,117,112,116]⟩⟩) (Value.str ⟨⟨[75,101,121,98,111,97,114,100,73,110,116,101,114,114,117,112,116]⟩⟩ 86) (Value.type PySem.W.SL.s11817881795495490833x17)) :: (DictEntry.mk (PyData.keyHash P ⟨⟨[83,121,115,116,101,109,69,120,105,116]⟩⟩) (Value.str ⟨⟨[83,121,115,116,101,109,69,120,105,116]⟩⟩ 87) (Value.type PySem.W.SL.s15679963881808890155x10)) :: (DictEntry.mk (PyData.keyHash P ⟨⟨[65,114,105,116,104,109,101,116,105,99,69,114,114,111,114]⟩⟩) (Value.str ⟨⟨[65,114,105,116,104,109,101,116,105,99,69,114,114,111,114]⟩⟩ 88) (Value.type PySem.W.SL.s3871700062485845797x15)) :: (DictEntry.mk (PyData.keyHash P ⟨⟨[65,115,115,101,114,116,105,111,110,69,114,114,111,114]⟩⟩) (Value.str ⟨⟨[65,115,115,101,114,116,105,111,110,69,114,114,111,114]⟩⟩ 89) (Value.type PySem.W.SL.s7689518266570723881x14)) :: (DictEntry.mk (PyData.keyHash P ⟨⟨[65,116,116,114,105,98,117,116,101,69,114,114,111,114]⟩⟩) (Value.str ⟨⟨[65,116,116,114,105,98,117,116,101,69,114,114,111,114]⟩⟩ 90) (Value.type PySem.W.SL.s9001593270443806431x14)) :: (DictEntry.mk (PyData.keyHash P ⟨⟨[66,117,102,102,101,114,69,114,114,111,114]⟩⟩) (Value.str ⟨⟨[66,117,102,102,101,114,69,114,114,111,114]⟩⟩ 91) (Value.type PySem.W.SL.s6882542574934516792x11)) :: (DictEntry.mk (PyData.keyHash P ⟨⟨[69,79,70,69,114,114,111,114]⟩⟩) (Value.str ⟨⟨[69,79,70,69,114,114,111,114]⟩⟩ 92) (Value.type PySem.W.SL.s14403400214490484960x8)) :: (DictEntry.mk (PyData.keyHash P ⟨⟨[73,109,112,111,114,116,69,114,114,111,114]⟩⟩) (Value.str ⟨⟨[73,109,112,111,114,116,69,114,114,111,114]⟩⟩ 93) (Value.type PySem.W.SL.s14457978657717015782x11)) :: (DictEntry.mk (PyData.keyHash P ⟨⟨[76,111,111,107,117,112,69,114,114,111,114]⟩⟩) (Value.str ⟨⟨[76,111,111,107,117,112,69,114,114,111,114]⟩⟩ 94) (Value.type PySem.W.SL.s1753610191782819921x11)) :: (DictEntry.mk (PyData.keyHash P ⟨⟨[77,101,109,111,114,121,69,114,114,111,114]⟩⟩) (Value.str ⟨⟨[77,101,109,111,114,121,69,114,114,111,114]⟩⟩ 95) (Value.type PySem.W.SL.s14119380538032626715x11)) :: (DictEntry.mk (PyData.keyHash P ⟨⟨[78,97,109,101,69,114,114,111,114]⟩⟩) (Value.str ⟨⟨[78,97,109,101,69,114,114,111,114]⟩⟩ 96) (Value.type PySem.W.SL.s11437920000406562045x9)) :: (DictEntry.mk (PyData.keyHash P ⟨⟨[79,83,69,114,114,111,114]⟩⟩) (Value.str ⟨⟨[79,83,69,114,114,111,114]⟩⟩ 97) (Value.type PySem.W.SL.s10852414792293593619x7)) :: (DictEntry.mk (PyData.keyHash P ⟨⟨[82,101,102,101,114,101,110,99,101,69,114,114,111,114]⟩⟩) (Value.str ⟨⟨[82,101,102,101,114,101,110,99,101,69,114,114,111,114]⟩⟩ 98) (Value.type PySem.W.SL.s14816307405966870543x14)) :: (DictEntry.mk (PyData.keyHash P ⟨⟨[82,117,110,116,105,109,101,69,114,114,111,114]⟩⟩) (Value.str ⟨⟨[82,117,110,116,105,109,101,69,114,114,111,114]⟩⟩ 99) (Value.type PySem.W.SL.s8682627914449686677x12)) :: (DictEntry.mk (PyData.keyHash P ⟨⟨[83,116,111,112,65,115,121,110,99,73,116,101,114,97,116,105,111,110]⟩⟩) (Value.str ⟨⟨[83,116,111,112,65,115,121,110,99,73,116,101,114,97,116,105,111,110]⟩⟩ 100) (Value.type PySem.W.SL.s4428170145600203450x18)) :: (DictEntry.mk (PyData.keyHash P ⟨⟨[83,116,111,112,73,116,101,114,97,116,105,111,110]⟩⟩) (Value.str ⟨⟨[83,116,111,112,73,116,101,114,97,116,105,111,110]⟩⟩ 101) (Value.type PySem.W.SL.s5991306692159431302x13)) :: (DictEntry.mk (PyData.keyHash P ⟨⟨[83,121,110,116,97,120,69,114,114,111,114]⟩⟩) (Value.str ⟨⟨[83,121,110,116,97,120,69,114,114,111,114]⟩⟩ 102) (Value.type PySem.W.SL.s16067994140765818257x11)) :: (DictEntry.mk (PyData.keyHash P ⟨⟨[83,121,115,116,101,109,69,114,114,111,114]⟩⟩) (Value.str ⟨⟨[83,121,115,116,101,109,69,114,114,111,114]⟩⟩ 103) (Value.type PySem.W.SL.s2327743974964600596x11)) :: (DictEntry.mk (PyData.keyHash P ⟨⟨[84,121,112,101,69,114,114,111,114]⟩⟩) (Value.str ⟨⟨[84,121,112,101,69,114,114,111,114]⟩⟩ 104) (Value.type PySem.W.SL.s2804747833354056582x9)) :: (DictEntry.mk (PyData.keyHash P ⟨⟨[86,97,108,117,101,69,114,114,111,114]⟩⟩) (Value.str ⟨⟨[86,97,108,117,101,69,114,114,111,114]⟩⟩ 105) (Value.type PySem.W.SL.s6070975301684473832x10)) :: (DictEntry.mk (PyData.keyHash P ⟨⟨[87,97,114,110,105,110,103]⟩⟩) (Value.str ⟨⟨[87,97,114,110,105,110,103]⟩⟩ 106) (Value.type PySem.W.SL.s14270485950484850486x7)) :: (DictEntry.mk (PyData.keyHash P ⟨⟨[70,108,111,97,116,105,110,103,80,111,105,110,116,69,114,114,111,114]⟩⟩) (Value.str ⟨⟨[70,108,111,97,116,105,110,103,80,111,105,110,116,69,114,114,111,114]⟩⟩ 107) (Value.type PySem.W.SL.s12041534306414923332x18)) :: (DictEntry.mk (PyData.keyHash P ⟨⟨[79,118,101,114,102,108,111,119,69,114,114,111,114]⟩⟩) (Value.str ⟨⟨[79,118,101,114,102,108,111,119,69,114,114,111,114]⟩⟩ 108) (Value.type PySem.W.SL.s2531307568338490285x13)) :: (DictEntry.mk (PyData.keyHash P ⟨⟨[90,101,114,111,68,105,118,105,115,105,111,110,69,114,114,111,114]⟩⟩) (Value.str ⟨⟨[90,101,114,111,68,105,118,105,115,105,111,110,69,114,114,111,114]⟩⟩ 109) (Value.type PySem.W.SL.s631175304937289666x17)) :: (DictEntry.mk (PyData.keyHash P ⟨⟨[66,121,116,101,115,87,97,114,110,105,110,103]⟩⟩) (Value.str ⟨⟨[66,121,116,101,115,87,97,114,110,105,110,103]⟩⟩ 110) (Value.type PySem.W.SL.s5144983644357021410x12)) :: (DictEntry.mk (PyData.keyHash P ⟨⟨[68,101,112,114,101,99,97,116,105,111,110,87,97,114,110,105,110,103]⟩⟩) (Value.str ⟨⟨[68,101,112,114,101,99,97,116,105,111,110,87,97,114,110,105,110,103]⟩⟩ 111) (Value.type PySem.W.SL.s18039099521571816885x18)) :: (DictEntry.mk (PyData.keyHash P ⟨⟨[69,110,99,111,100,105,110,103,87,97,114,110,105,110,103]⟩⟩) (Value.str ⟨⟨[69,110,99,111,100,105,110,103,87,97,114,110,105,110,103]⟩⟩ 112) (Value.type PySem.W.SL.s6011586214260557989x15)) :: (DictEntry.mk (PyData.keyHash P ⟨⟨[70,117,116,117,114,101,87,97,114,110,105,110,103]⟩⟩) (Value.str ⟨⟨[70,117,116,117,114,101,87,97,114,110,105,110,103]⟩⟩ 113) (Value.type PySem.W.SL.s5430567037509283100x13)) :: (DictEntry.mk (PyData.keyHash P ⟨⟨[73,109,112,111,114,116,87,97,114,110,105,110,103]⟩⟩) (Value.str ⟨⟨[73,109,112,111,114,116,87,97,114,110,105,110,103]⟩⟩ 114) (Value.type PySem.W.SL.s8117915138073963741x13)) :: (DictEntry.mk (PyData.keyHash P ⟨⟨[80,101,110,100,105,110,103,68,101,112,114,101,99,97,116,105,111,110,87,97,114,110,105,110,103]⟩⟩) (Value.str ⟨⟨[80,101,110,100,105,110,103,68,101,112,114,101,99,97,116,105,111,110,87,97,114,110,105,110,103]⟩⟩ 115) (Value.type PySem.W.SL.s3423317712779056401x25)) :: (DictEntry.mk (PyData.keyHash P ⟨⟨[82,101,115,111,117,114,99,101,87,97,114,110,105,110,103]⟩⟩) (Value.str ⟨⟨[82,101,115,111,117,114,99,101,87,97,114,110,105,110,103]⟩⟩ 116) (Value.type PySem.W.SL.s2007317383269046180x15)) :: (DictEntry.mk (PyData.keyHash P ⟨⟨[82,117,110,116,105,109,101,87,97,114,110,105,110,103]⟩⟩) (Value.str ⟨⟨[82,117,110,116,105,109,101,87,97,114,110,105,110,103]⟩⟩ 117) (Value.type PySem.W.SL.s17481586968713580700x14)) :: (DictEntry.mk (PyData.keyHash P ⟨⟨[83,121,110,116,97,120,87,97,114,110,105,110,103]⟩⟩) (Value.str ⟨⟨[83,121,110,116,97,120,87,97,114,110,105,110,103]⟩⟩ 118) (Value.type PySem.W.SL.s2450899226349176912x13)) :: (DictEntry.mk (PyData.keyHash P ⟨⟨[85,110,105,99,111,100,101,87,97,114,110,105,110,103]⟩⟩) (Value.str ⟨⟨[85,110,105,99,111,100,101,87,97,114,110,105,110,103]⟩⟩ 119) (Value.type PySem.W.SL.s16626165730633575011x14)) :: (DictEntry.mk (PyData.keyHash P ⟨⟨[85,115,101,114,87,97,114,110,105,110,103]⟩⟩) (Value.str ⟨⟨[85,115,101,114,87,97,114,110,105,110,103]⟩⟩ 120) (Value.type PySem.W.SL.s14288496050688921416x11)) :: (DictEntry.mk (PyData.keyHash P ⟨⟨[66,108,111,99,107,105,110,103,73,79,69,114,114,111,114]⟩⟩) (Value.str ⟨⟨[66,108,111,99,107,105,110,103,73,79,69,114,114,111,114]⟩⟩ 121) (Value.type PySem.W.SL.s5735081916595925998x15)) :: (DictEntry.mk (PyData.keyHash P ⟨⟨[67,104,105,108,100,80,114,111,99,101,115,115,69,114,114,111,114]⟩⟩) (Value.str ⟨⟨[67,104,105,108,100,80,114,111,99,101,115,115,69,114,114,111,114]⟩⟩ 122) (Value.type PySem.W.SL.s3865607918536308442x17)) :: (DictEntry.mk (PyData.keyHash P ⟨⟨[67,111,110,110,101,99,116,105,111,110,69,114,114,111,114]⟩⟩) (Value.str ⟨⟨[67,111,110,110,101,99,116,105,111,110,69,114,114,111,114]⟩⟩ 123) (Value.type PySem.W.SL.s13337502604062700212x15)) :: (DictEntry.mk (PyData.keyHash P ⟨⟨[70,105,108,101,69,120,105,115,116,115,69,114,114,111,114]⟩⟩) (Value.str ⟨⟨[70,105,108,101,69,120,105,115,116,115,69,114,114,111,114]⟩⟩ 124) (Value.type PySem.W.SL.s13114017843053701147x15)) :: (DictEntry.mk (PyData.keyHash P ⟨⟨[70,105,108,101,78,111,116,70,111,117,110,100,69,114,114,111,114]⟩⟩) (Value.str ⟨⟨[70,105,108,101,78,111,116,70,111,117,110,100,69,114,114,111,114]⟩⟩ 125) (Value.type PySem.W.SL.s17467278006356818441x17)) :: (DictEntry.mk (PyData.keyHash P ⟨⟨[73,110,116,101,114,114,117,112,116,101,100,69,114,114,111,114]⟩⟩) (Value.str ⟨⟨[73,110,116,101,114,114,117,112,116,101,100,69,114,114,111,114]⟩⟩ 126) (Value.type PySem.W.SL.s17722149559621369488x16)) :: (DictEntry.mk (PyData.keyHash P ⟨⟨[73,115,65,68,105,114,101,99,116,111,114,121,69,114,114,111,114]⟩⟩) (Value.str ⟨⟨[73,115,65,68,105,114,101,99,116,111,114,121,69,114,114,111,114]⟩⟩ 127) (Value.type PySem.W.SL.s7855274175708717672x17)) :: (DictEntry.mk (PyData.keyHash P ⟨⟨[78,111,116,65,68,105,114,101,99,116,111,114,121,69,114,114,111,114]⟩⟩) (Value.str ⟨⟨[78,111,116,65,68,105,114,101,99,116,111,114,121,69,114,114,111,114]⟩⟩ 128) (Value.type PySem.W.SL.s13351283678309829046x18)) :: (DictEntry.mk (PyData.keyHash P ⟨⟨[80,101,114,109,105,115,115,105,111,110,69,114,114,111,114]⟩⟩) (Value.str ⟨⟨[80,101,114,109,105,115,115,105,111,110,69,114,114,111,114]⟩⟩ 129) (Value.type PySem.W.SL.s6668348653404991179x15)) :: (DictEntry.mk (PyData.keyHash P ⟨⟨[80,114,111,99,101,115,115,76,111,111,107,117,112,69,114,114,111,114]⟩⟩) (Value.str ⟨⟨[80,114,111,99,101,115,115,76,111,111,107,117,112,69,114,114,111,114]⟩⟩ 130) (Value.type PySem.W.SL.s12913350958174193794x18)) :: (DictEntry.mk (PyData.keyHash P ⟨⟨[84,105,109,101,111,117,116,69,114,114,111,114]⟩⟩) (Value.str ⟨⟨[84,105,109,101,111,117,116,69,114,114,111,114]⟩⟩ 131) (Value.type PySem.W.SL.s16115879512475548326x12)) :: (DictEntry.mk (PyData.keyHash P ⟨⟨[73,110,100,101,110,116,97,116,105,111,110,69,114,114,111,114]⟩⟩) (Value.str ⟨⟨[73,110,100,101,110,116,97,116,105,111,110,69,114,114,111,114]⟩⟩ 132) (Value.type PySem.W.SL.s15920661018069861047x16)) :: (DictEntry.mk (PyData.keyHash P ⟨⟨[95,73,110,99,111,109,112,108,101,116,101,73,110,112,117,116,69,114,114,111,114]⟩⟩) (Value.str ⟨⟨[95,73,110,99,111,109,112,108,101,116,101,73,110,112,117,116,69,114,114,111,114]⟩⟩ 133) (Value.type PySem.W.SL.s10779130036587390575x21)) :: (DictEntry.mk (PyData.keyHash P ⟨⟨[73,110,100,101,120,69,114,114,111,114]⟩⟩) (Value.str ⟨⟨[73,110,100,101,120,69,114,114,111,114]⟩⟩ 134) (Value.type PySem.W.SL.s7801419657504700863x10)) :: (DictEntry.mk (PyData.keyHash P ⟨⟨[75,101,121,69,114,114,111,114]⟩⟩) (Value.str ⟨⟨[75,101,121,69,114,114,111,114]⟩⟩ 135) (Value.type PySem.W.SL.s1688129525768580628x8)) :: (DictEntry.mk (PyData.keyHash P ⟨⟨[77,111,100,117,108,101,78,111,116,70,111,117,110,100,69,114,114,111,114]⟩⟩) (Value.str ⟨⟨[77,111,100,117,108,101,78,111,116,70,111,117,110,100,69,114,114,111,114]⟩⟩ 136) (Value.type PySem.W.SL.s1031832959479892071x19)) :: (DictEntry.mk (PyData.keyHash P ⟨⟨[78,111,116,73,109,112,108,101,109,101,110,116,101,100,69,114,114,111,114]⟩⟩) (Value.str ⟨⟨[78,111,116,73,109,112,108,101,109,101,110,116,101,100,69,114,114,111,114]⟩⟩ 137) (Value.type PySem.W.SL.s8991790508128307865x19)) :: (DictEntry.mk (PyData.keyHash P ⟨⟨[80,121,116,104,111,110,70,105,110,97,108,105,122,97,116,105,111,110,69,114,114,111,114]⟩⟩) (Value.str ⟨⟨[80,121,116,104,111,110,70,105,110,97,108,105,122,97,116,105,111,110,69,114,114,111,114]⟩⟩ 138) (Value.type PySem.W.SL.s14539662485746970245x23)) :: (DictEntry.mk (PyData.keyHash P ⟨⟨[82,101,99,117,114,115,105,111,110,69,114,114,111,114]⟩⟩) (Value.str ⟨⟨[82,101,99,117,114,115,105,111,110,69,114,114,111,114]⟩⟩ 139) (Value.type PySem.W.SL.s11643622729373238714x14)) :: (DictEntry.mk (PyData.keyHash P ⟨⟨[85,110,98,111,117,110,100,76,111,99,97,108,69,114,114,111,114]⟩⟩) (Value.str ⟨⟨[85,110,98,111,117,110,100,76,111,99,97,108,69,114,114,111,114]⟩⟩ 140) (Value.type PySem.W.SL.s3386828779285465597x17)) :: (DictEntry.mk (PyData.keyHash P ⟨⟨[85,110,105,99,111,100,101,69,114,114,111,114]⟩⟩) (Value.str ⟨⟨[85,110,105,99,111,100,101,69,114,114,111,114]⟩⟩ 141) (Value.type PySem.W.SL.s13042696260734638735x12)) :: (DictEntry.mk (PyData.keyHash P ⟨⟨[66,114,111,107,101,110,80,105,112,101,69,114,114,111,114]⟩⟩) (Value.str ⟨⟨[66,114,111,107,101,110,80,105,112,101,69,114,114,111,114]⟩⟩ 142) (Value.type PySem.W.SL.s18239426817015966623x15)) :: (DictEntry.mk (PyData.keyHash P ⟨⟨[67,111,110,110,101,99,116,105,111,110,65,98,111,114,116,101,100,69,114,114,111,114]⟩⟩) (Value.str ⟨⟨[67,111,110,110,101,99,116,105,111,110,65,98,111,114,116,101,100,69,114,114,111,114]⟩⟩ 143) (Value.type PySem.W.SL.s1270395311379034370x22)) :: (DictEntry.mk (PyData.keyHash P ⟨⟨[67,111,110,110,101,99,116,105,111,110,82,101,102,117,115,101,100,69,114,114,111,114]⟩⟩) (Value.str ⟨⟨[67,111,110,110,101,99,116,105,111,110,82,101,102,117,115,101,100,69,114,114,111,114]⟩⟩ 144) (Value.type PySem.W.SL.s10696252587037064777x22)) :: (DictEntry.mk (PyData.keyHash P ⟨⟨[67,111,110,110,101,99,116,105,111,110,82,101,115,101,116,69,114,114,111,114]⟩⟩) (Value.str ⟨⟨[67,111,110,110,101,99,116,105,111,110,82,101,115,101,116,69,114,114,111,114]⟩⟩ 145) (Value.type PySem.W.SL.s7852717498200857586x20)) :: (DictEntry.mk (PyData.keyHash P ⟨⟨[84,97,98,69,114,114,111,114]⟩⟩) (Value.str ⟨⟨[84,97,98,69,114,114,111,114]⟩⟩ 146) (Value.type PySem.W.SL.s6377248116197321094x8)) :: (DictEntry.mk (PyData.keyHash P ⟨⟨[85,110,105,99,111,100,101,68,101,99,111,100,101,69,114,114,111,114]⟩⟩) (Value.str ⟨⟨[85,110,105,99,111,100,101,68,101,99,111,100,101,69,114,114,111,114]⟩⟩ 147) (Value.type PySem.W.SL.s3834378056692298002x18)) :: (DictEntry.mk (PyData.keyHash P ⟨⟨[85,110,105,99,111,100,101,69,110,99,111,100,101,69,114,114,111,114]⟩⟩) (Value.str ⟨⟨[85,110,105,99,111,100,101,69,110,99,111,100,101,69,114,114,111,114]⟩⟩ 148) (Value.type PySem.W.SL.s17586630440231065808x18)) :: (DictEntry.mk (PyData.keyHash P ⟨⟨[85,110,105,99,111,100,101,84,114,97,110,115,108,97,116,101,69,114,114,111,114]⟩⟩) (Value.str ⟨⟨[85,110,105,99,111,100,101,84,114,97,110,115,108,97,116,101,69,114,114,111,114]⟩⟩ 149) (Value.type PySem.W.SL.s15234114252648025395x21)) :: (DictEntry.mk (PyData.keyHash P ⟨⟨[69,120,99,101,112,116,105,111,110,71,114,111,117,112]⟩⟩) (Value.str ⟨⟨[69,120,99,101,112,116,105,111,110,71,114,111,117,112]⟩⟩ 150) (Value.type PySem.W.SL.s8496462677383758984x14)) :: (DictEntry.mk (PyData.keyHash P ⟨⟨[69,110,118,105,114,111,110,109,101,110,116,69,114,114,111,114]⟩⟩) (Value.str ⟨⟨[69,110,118,105,114,111,110,109,101,110,116,69,114,114,111,114]⟩⟩ 151) (Value.type PySem.W.SL.s10852414792293593619x7)) :: (DictEntry.mk (PyData.keyHash P ⟨⟨[73,79,69,114,114,111,114]⟩⟩) (Value.str ⟨⟨[73,79,69,114,114,111,114]⟩⟩ 152) (Value.type PySem.W.SL.s10852414792293593619x7)) :: (DictEntry.mk (PyData.keyHash P ⟨⟨[111,112,101,110]⟩⟩) (Value.str ⟨⟨[111,112,101,110]⟩⟩ 153) (Value.builtin PySem.W.SL.s16789243406116112673x4)) :: (DictEntry.mk (PyData.keyHash P ⟨⟨[113,117,105,116]⟩⟩) (Value.str ⟨⟨[113,117,105,116]⟩⟩ 154) (Value.builtin PySem.W.SL.s14400166428656793546x20)) :: (DictEntry.mk (PyData.keyHash P ⟨⟨[101,120,105,116]⟩⟩) (Value.str ⟨⟨[101,120,105,116]⟩⟩ 155) (Value.builtin PySem.W.SL.s5857708277339239366x20)) :: (DictEntry.mk (PyData.keyHash P ⟨⟨[99,111,112,121,114,105,103,104,116]⟩⟩) (Value.str ⟨⟨[99,111,112,121,114,105,103,104,116]⟩⟩ 156) (Value.builtin "builtins.copyright#opaque")) :: (DictEntry.mk (PyData.keyHash P ⟨⟨[99,114,101,100,105,116,115]⟩⟩) (Value.str ⟨⟨[99,114,101,100,105,116,115]⟩⟩ 157) (Value.builtin "builtins.credits#opaque")) :: (DictEntry.mk (PyData.keyHash P ⟨⟨[108,105,99,101,110,115,101]⟩⟩) (Value.str ⟨⟨[108,105,99,101,110,115,101]⟩⟩ 158) (Value.builtin "builtins.license#opaque")) :: (DictEntry.mk (PyData.keyHash P ⟨⟨[104,101,108,112]⟩⟩) (Value.str ⟨⟨[104,101,108,112]⟩⟩ 159) (Value.builtin PySem.W.SL.s7804999707787243718x20)) :: [])) 159) (List.toArray []))
noncomputable def o_531 (P : Params) : Obj := (Obj.mk (Value.type PySem.W.SL.s14018661285674007319x4) Option.none (Data.dict (List.toArray [(DictEntry.mk (PyData.keyHash P ⟨⟨[98,117,105,108,116,105,110,115]⟩⟩) (Value.str ⟨⟨[98,117,105,108,116,105,110,115]⟩⟩ 162) (Value.ref 4)), (DictEntry.mk (PyData.keyHash P ⟨⟨[95,95,109,97,105,110,95,95]⟩⟩) (Value.str ⟨⟨[95,95,109,97,105,110,95,95]⟩⟩ 163) (Value.ref 5))]) 2) (List.toArray []))
noncomputable def o_536 (P : Params) : Obj := (Obj.mk (Value.type PySem.W.SL.s14018661285674007319x4) Option.none (Data.dict (List.toArray [(DictEntry.mk (PyData.keyHash P ⟨⟨[95,95,110,97,109,101,95,95]⟩⟩) (Value.str ⟨⟨[95,95,110,97,109,101,95,95]⟩⟩ 165) (Value.str ⟨⟨[95,95,109,97,105,110,95,95]⟩⟩ 164)), (DictEntry.mk (PyData.keyHash P ⟨⟨[95,95,100,111,99,95,95]⟩⟩) (Value.str ⟨⟨[95,95,100,111,99,95,95]⟩⟩ 166) Value.none), (DictEntry.mk (PyData.keyHash P ⟨⟨[95,95,112,97,99,107,97,103,101,95,95]⟩⟩) (Value.str ⟨⟨[95,95,112,97,99,107,97,103,101,95,95]⟩⟩ 167) Value.none), (DictEntry.mk (PyData.keyHash P ⟨⟨[95,95,108,111,97,100,101,114,95,95]⟩⟩) (Value.str ⟨⟨[95,95,108,111,97,100,101,114,95,95]⟩⟩ 168) (Value.builtin PySem.W.SL.s7097527257260152453x26)), (DictEntry.mk (PyData.keyHash P ⟨⟨[95,95,115,112,101,99,95,95]⟩⟩) (Value.str ⟨⟨[95,95,115,112,101,99,95,95]⟩⟩ 169) Value.none), (DictEntry.mk (PyData.keyHash P ⟨⟨[95,95,97,110,110,111,116,97,116,105,111,110,115,95,95]⟩⟩) (Value.str ⟨⟨[95,95,97,110,110,111,116,97,116,105,111,110,115,95,95]⟩⟩ 170) (Value.ref 6)), (DictEntry.mk (PyData.keyHash P ⟨⟨[95,95,98,117,105,108,116,105,110,115,95,95]⟩⟩) (Value.str ⟨⟨[95,95,98,117,105,108,116,105,110,115,95,95]⟩⟩ 171) (Value.ref 4)), (DictEntry.mk (PyData.keyHash P ⟨⟨[95,95,102,105,108,101,95,95]⟩⟩) (Value.str ⟨⟨[95,95,102,105,108,101,95,95]⟩⟩ 173) (Value.str ⟨⟨[47,99,108,97,105,109,47,99,117,116,46,112,121]⟩⟩ 172)), (DictEntry.mk (PyData.keyHash P ⟨⟨[95,95,99,97,99,104,101,100,95,95]⟩⟩) (Value.str ⟨⟨[95,95,99,97,99,104,101,100,95,95]⟩⟩ 174) Value.none)]) 9) (List.toArray []))
noncomputable def o_537 (P : Params) : Obj := (Obj.mk (Value.type PySem.W.SL.s2766695959194262286x5) Option.none (Data.seq (List.toArray []) 0) (List.toArray []))
noncomputable def o_534 (P : Params) : Obj := (Obj.mk (Value.type PySem.W.SL.s6658869562736209489x6) (Option.some 3) Data.plain (List.toArray []))
noncomputable def o_539 (P : Params) : Obj := (Obj.mk (Value.type PySem.W.SL.s5856160107412720595x4) Option.none (Data.fields (List.toArray [(Value.str ⟨⟨[60,109,111,100,117,108,101,62]⟩⟩ 176), (Value.str ⟨⟨[60,109,111,100,117,108,101,62]⟩⟩ 177), (Value.str ⟨⟨[47,99,108,97,105,109,47,99,117,116,46,112,121]⟩⟩ 178), (Value.int 1 0), (Value.int 0 0), (Value.int 0 0), (Value.int 0 0), (Value.int 0 0), (Value.ref 7), (Value.bool Bool.false), (Value.int 175 0), (Value.ref 8), Value.none, Value.none, Value.none, Value.none, (Value.int 179 0), (Value.int 1 0), (Value.str ⟨⟨[47,99,108,97,105,109,47,99,117,116,46,112,121]⟩⟩ 180)])) (List.toArray []))
noncomputable def o_515 (P : Params) : Obj := (Obj.mk Value.none Option.none (Data.dict (List.toArray []) 0) (List.toArray []))
noncomputable def o_533 (P : Params) : Obj := (Obj.mk (Value.type PySem.W.SL.s6658869562736209489x6) (Option.some 0) Data.plain (List.toArray []))
noncomputable def o_538 (P : Params) : Obj := (Obj.mk Value.none Option.none (Data.fields (List.toArray [])) (List.toArray []))
noncomputable def o_535 (P : Params) : Obj := (Obj.mk (Value.type PySem.W.SL.s14018661285674007319x4) Option.none (Data.dict (List.toArray []) 0) (List.toArray []))
noncomputable def o_540 (P : Params) : Obj := (Obj.mk (Value.type PySem.W.SL.s658472552662922059x5) Option.none Data.plain (List.toArray [(Option.some (Value.ref 9)), (Option.some (Value.ref 3)), (Option.some (Value.ref 3)), Option.none, (Option.some (Value.str ⟨⟨[95,95,109,97,105,110,95,95]⟩⟩ 164)), Option.none, (Option.some (Value.ref 0))]))
noncomputable def tree_540 (P : Params) : BT := (BT.node (o_530 P) (BT.node (o_531 P) (BT.node (o_536 P) (BT.node (o_537 P) BT.nil BT.nil) BT.nil) (BT.node (o_534 P) (BT.node (o_539 P) BT.nil BT.nil) BT.nil)) (BT.node (o_515 P) (BT.node (o_533 P) (BT.node (o_538 P) BT.nil BT.nil) BT.nil) (BT.node (o_535 P) (BT.node (o_540 P) BT.nil BT.nil) BT.nil)))
noncomputable def EN : Env := { scope := PQ.main.scope, locals := mainNs, globals := mainNs, cells := [], code := .ref 13, frame := some 14 }
noncomputable def BQ : List Stmt := behindTheImports PQ
noncomputable def CB : Code := .body (behindTheImports PQ) EN
noncomputable abbrev TB := PySem.W.Fast.tw14364793385576792824
theorem pre (w : World) : (fun os => topGo TB PQ w 11 (some (.ref 6)) 12 ⟨heap_52 w.params, ⟨[]⟩, {}, 181, os⟩ (topStub PQ)) = fun os => some (⟨heap_56 w.params, ⟨[]⟩, {}, 187, os⟩, ⟨denote TB CB, CB, ⟨0, 0, 0, 0⟩, [topFrame ⟨0, 0, 0, 0⟩]⟩) := by
  rewrite [PySem.W.Fast.te15667345088766844465, PySem.W.Fast.te11892475500146522536]; kernel_rfl
theorem block (w : World) : (fun os => segRun TB PQ w 11 (some (.ref 6)) 1 1 ⟨heap_56 w.params, ⟨[]⟩, {}, 187, os⟩ (blockOf BQ EN CB ⟨0, 0, 0, 0⟩ [topFrame ⟨0, 0, 0, 0⟩])) =
    fun os => some (.next, (⟨tree_57 w.params, 15, {}, ⟨[]⟩, {}, 187, os⟩ : SharedT).abs, CB, ⟨0, 0, 0, 0⟩) := by
  rewrite [PySem.W.Fast.te14374325043358763698]; kernel_rfl
noncomputable def PA (w : World) : Prop := (fun os => segRunT TB PQ w 11 (some (.ref 6)) 1 9700 ⟨tree_57 w.params, 15, {}, ⟨[]⟩, {}, 187, os⟩ (piecesOf (BQ.take 3) EN CB ⟨0, 0, 0, 0⟩ [topFrame ⟨0, 0, 0, 0⟩])) =
    fun os => some (.next, ⟨tree_67 w.params, 21, {}, ⟨[]⟩, {}, 1219, os⟩, CB, ⟨3, 0, 3, 11⟩)
theorem pA_false_false (w : World) : PA ((w.withFollow "comprehension-iter-twice" false).withFollow "special-get-raises" false) := by unfold PA; rewrite [PySem.W.Fast.te10110043849684766642]; kernel_rfl
theorem pA_false_true (w : World) : PA ((w.withFollow "comprehension-iter-twice" true).withFollow "special-get-raises" false) := by unfold PA; rewrite [PySem.W.Fast.te10110043849684766642]; kernel_rfl
theorem pA_false (w : World) : PA (w.withFollow "special-get-raises" false) := byRow2 "comprehension-iter-twice" (P := fun w => PA (w.withFollow "special-get-raises" false)) pA_false_false pA_false_true w
theorem pA_true_false (w : World) : PA ((w.withFollow "comprehension-iter-twice" false).withFollow "special-get-raises" true) := by unfold PA; rewrite [PySem.W.Fast.te10110043849684766642]; kernel_rfl
theorem pA_true_true (w : World) : PA ((w.withFollow "comprehension-iter-twice" true).withFollow "special-get-raises" true) := by unfold PA; rewrite [PySem.W.Fast.te10110043849684766642]; kernel_rfl
theorem pA_true (w : World) : PA (w.withFollow "special-get-raises" true) := byRow2 "comprehension-iter-twice" (P := fun w => PA (w.withFollow "special-get-raises" true)) pA_true_false pA_true_true w
theorem pA (w : World) : PA w := byRow2 "special-get-raises" (P := PA) pA_false pA_true w
noncomputable def PB (w : World) : Prop := (fun os => segRunT TB PQ w 11 (some (.ref 6)) 1 8000 ⟨tree_67 w.params, 21, {}, ⟨[]⟩, {}, 1219, os⟩ (piecesOf ((BQ.drop 3).take 11) EN CB ⟨3, 0, 3, 11⟩ [topFrame ⟨0, 0, 0, 0⟩])) =
    fun os => some (.next, ⟨tree_384 w.params, 31, {}, ⟨[]⟩, {}, 1733, os⟩, CB, ⟨15, 9, 15, 110⟩)
theorem pB_false (w : World) : PB (w.withFollow "special-get-raises" false) := by unfold PB; rewrite [PySem.W.Fast.te10110043849684766642]; kernel_rfl
theorem pB_true (w : World) : PB (w.withFollow "special-get-raises" true) := by unfold PB; rewrite [PySem.W.Fast.te10110043849684766642]; kernel_rfl
theorem pB (w : World) : PB w := byRow2 "special-get-raises" (P := PB) pB_false pB_true w
noncomputable def PC (w : World) : Prop := (fun os => segRunT TB PQ w 11 (some (.ref 6)) 1 1200 ⟨tree_384 w.params, 31, {}, ⟨[]⟩, {}, 1733, os⟩ (piecesOf ((BQ.drop 3).drop 11) EN CB ⟨15, 9, 15, 110⟩ [topFrame ⟨0, 0, 0, 0⟩])) =
    fun os => some (.next, ⟨tree_509 w.params, 137, {}, ⟨[]⟩, {}, 1884, os⟩, CB, ⟨150, 0, 168, 63⟩)
theorem pC_false (w : World) : PC (w.withFollow "special-get-raises" false) := by unfold PC; rewrite [PySem.W.Fast.te10110043849684766642]; kernel_rfl
theorem pC_true (w : World) : PC (w.withFollow "special-get-raises" true) := by unfold PC; rewrite [PySem.W.Fast.te10110043849684766642]; kernel_rfl
theorem pC (w : World) : PC w := byRow2 "special-get-raises" (P := PC) pC_false pC_true w
theorem fin (w : World) : (fun os => topRun TB PQ w 11 (some (.ref 6)) 2 (⟨tree_509 w.params, 137, {}, ⟨[]⟩, {}, 1884, os⟩ : SharedT).abs ⟨doneF .next, CB, ⟨150, 0, 168, 63⟩, [topFrame ⟨0, 0, 0, 0⟩]⟩) = fun os => some ⟨heap_510 w.params, ⟨[]⟩, {}, 1884, os⟩ := by
  rewrite [PySem.W.Fast.te14082659384304107361]; kernel_rfl
theorem app_of {tb : String → Option Builtin} {p : Program} {w : World} {n₀ : Nat} {ann : Option Value} {env : Env} {q : Pos} {n N : Nat} {s s' r : Shared} {b l rest : List Stmt} {c : Code} {pos p' : Pos} (e : b = l ++ rest)
    (h : segRun tb p w n₀ ann 1 n s (piecesOf l env c pos [topFrame q]) = some (.next, s', c, p'))
    (k : topRun tb p w n₀ ann N s' (restOf rest env c p' [topFrame q]) = some r) : topRun tb p w n₀ ann (n + N) s (restOf b env c pos [topFrame q]) = some r := by
  subst e; exact piece_app h k
theorem run (w : World) (os : OsState) : topRun treeTable PQ w 11 (some (.ref 6)) (12 + (1 + (9700 + (8000 + (1200 + 2))))) ⟨heap_52 w.params, ⟨[]⟩, {}, 181, os⟩ (topStub PQ) = some ⟨heap_510 w.params, ⟨[]⟩, {}, 1884, os⟩ := by
  rewrite [PySem.W.Fast.te14364793385576792824]
  refine go_top (congrFun (pre w) os) ?_
  refine piece_block (b := BQ) (env := EN) (congrFun (block w) os) ?_
  refine app_of (List.take_append_drop 3 BQ).symm (segRun_of (congrFun (pA w) os)) ?_
  refine app_of (List.take_append_drop 11 _).symm (segRun_of (congrFun (pB w) os)) ?_
  refine app_of (List.append_nil _).symm (segRun_of (congrFun (pC w) os)) ?_
  exact piece_nil (congrFun (fin w) os)
theorem open_ (w : World) : (fencedOpening treeTable PQ w 35978).map (fun s => (s.heap, s.gens, s.drawn, s.toks)) = some (heap_52 w.params, ⟨[]⟩, {}, 181) := by
  unfold fencedOpening
  rewrite [PySem.W.Fast.te10274390034422433532, PySem.W.Fast.te1435165496053646825, PySem.W.Fast.te14364793385576792824, PySem.W.Fast.te14289696077712309145]; kernel_rfl
theorem size (w : World) : ((heap_52 w.params).isNs mainGlobals && (Array.mk ([] : List GenState)).size == 0, (heap_52 w.params).objs.size, (heap_52 w.params).nsMap mainGlobals "__annotations__") = (true, 11, some (.ref 6)) := by
  rewrite [PySem.W.Fast.te8920871248978507458]; kernel_rfl
theorem looks (w : World) : (fun os => ((staticsOk (importedModules PQ.main.body) (heap_52 w.params) (heap_510 w.params) && namesBound PQ (heap_510 w.params) && gensDone ⟨heap_510 w.params, ⟨[]⟩, {}, 1884, os⟩ && laidKept (heap_52 w.params) (heap_510 w.params)),
    openSeen hd.view_39 [Str.ofString "_QUOPRI_MAP", Str.ofString "_QUOPRI_HEADER_MAP", Str.ofString "_QUOPRI_BODY_MAP", Str.ofString "ascii_letters", Str.ofString "hexdigits", Str.ofString "_QUOPRI_BODY_ENCODE_MAP", Str.ofString "body_encode", Str.ofString "decode", Str.ofString "UNKNOWN"] (importedModules PQ.main.body) (fun s => xlAt hd.view_39 [(Str.ofString "ascii_letters", WData.str ⟨#[97,98,99,100,101,102,103,104,105,106,107,108,109,110,111,112,113,114,115,116,117,118,119,120,121,122,65,66,67,68,69,70,71,72,73,74,75,76,77,78,79,80,81,82,83,84,85,86,87,88,89,90]⟩), (Str.ofString "hexdigits", WData.str ⟨#[48,49,50,51,52,53,54,55,56,57,97,98,99,100,101,102,65,66,67,68,69,70]⟩)] s && recOk (RowW.records PySem.Challenge.rw_ik0034_01.row.toRowW) s) true ⟨heap_510 w.params, ⟨[]⟩, {}, 1884, os⟩, Hook.obs (kHook hd.heap_39 [2, 3, 6, 17, 22, 24, 31, 33, 34, 36, 37, 38, 40, 41, 43, 44, 46, 50, 51, 53, 54, 56, 57, 58, 59, 61, 62, 64, 65, 73, 75, 76, 78, 79, 80, 81, 82, 83, 84, 87, 88, 89, 91, 92, 94, 95, 96, 98, 99, 101, 102, 103, 106, 107, 108, 110, 111, 113, 114, 115, 118, 119, 120, 122, 123, 125, 126, 127, 130, 131, 132, 135, 136] (fun _ => by kernel_rfl)) ⟨heap_510 w.params, ⟨[]⟩, {}, 1884, os⟩)) = fun _ => (true, openGood hd.view_39 [Str.ofString "_QUOPRI_MAP", Str.ofString "_QUOPRI_HEADER_MAP", Str.ofString "_QUOPRI_BODY_MAP", Str.ofString "ascii_letters", Str.ofString "hexdigits", Str.ofString "_QUOPRI_BODY_ENCODE_MAP", Str.ofString "body_encode", Str.ofString "decode", Str.ofString "UNKNOWN"], Hook.val (kHook hd.heap_39 [2, 3, 6, 17, 22, 24, 31, 33, 34, 36, 37, 38, 40, 41, 43, 44, 46, 50, 51, 53, 54, 56, 57, 58, 59, 61, 62, 64, 65, 73, 75, 76, 78, 79, 80, 81, 82, 83, 84, 87, 88, 89, 91, 92, 94, 95, 96, 98, 99, 101, 102, 103, 106, 107, 108, 110, 111, 113, 114, 115, 118, 119, 120, 122, 123, 125, 126, 127, 130, 131, 132, 135, 136] (fun _ => by kernel_rfl)) w) := by
  rewrite [PySem.W.Fast.te4187177175401517315, PySem.W.Fast.te5923862056798008813, PySem.W.Fast.te2368527892694137696, RW0_eq, PySem.W.Fast.te16398599223371307846, PySem.W.Fast.te14979626087600564940]; kernel_rfl
theorem left : LeftO PySem.Challenge.rw_ik0034_01.row.toRowW.1 hd.view_39 [Str.ofString "_QUOPRI_MAP", Str.ofString "_QUOPRI_HEADER_MAP", Str.ofString "_QUOPRI_BODY_MAP", Str.ofString "ascii_letters", Str.ofString "hexdigits", Str.ofString "_QUOPRI_BODY_ENCODE_MAP", Str.ofString "body_encode", Str.ofString "decode", Str.ofString "UNKNOWN"] (fun s => xlAt hd.view_39 [(Str.ofString "ascii_letters", WData.str ⟨#[97,98,99,100,101,102,103,104,105,106,107,108,109,110,111,112,113,114,115,116,117,118,119,120,121,122,65,66,67,68,69,70,71,72,73,74,75,76,77,78,79,80,81,82,83,84,85,86,87,88,89,90]⟩), (Str.ofString "hexdigits", WData.str ⟨#[48,49,50,51,52,53,54,55,56,57,97,98,99,100,101,102,65,66,67,68,69,70]⟩)] s && recOk (RowW.records PySem.Challenge.rw_ik0034_01.row.toRowW) s) (Hook.obs (kHook hd.heap_39 [2, 3, 6, 17, 22, 24, 31, 33, 34, 36, 37, 38, 40, 41, 43, 44, 46, 50, 51, 53, 54, 56, 57, 58, 59, 61, 62, 64, 65, 73, 75, 76, 78, 79, 80, 81, 82, 83, 84, 87, 88, 89, 91, 92, 94, 95, 96, 98, 99, 101, 102, 103, 106, 107, 108, 110, 111, 113, 114, 115, 118, 119, 120, 122, 123, 125, 126, 127, 130, 131, 132, 135, 136] (fun _ => by kernel_rfl))) (Hook.val (kHook hd.heap_39 [2, 3, 6, 17, 22, 24, 31, 33, 34, 36, 37, 38, 40, 41, 43, 44, 46, 50, 51, 53, 54, 56, 57, 58, 59, 61, 62, 64, 65, 73, 75, 76, 78, 79, 80, 81, 82, 83, 84, 87, 88, 89, 91, 92, 94, 95, 96, 98, 99, 101, 102, 103, 106, 107, 108, 110, 111, 113, 114, 115, 118, 119, 120, 122, 123, 125, 126, 127, 130, 131, 132, 135, 136] (fun _ => by kernel_rfl))) 35978 := by
  have hp : PySem.Challenge.rw_ik0034_01.row.toRowW.1 = PQ := by unfold PQ; rewrite [← PySem.W.Fast.te2368527892694137696, ← PySem.W.Fast.te16398599223371307846, ← RW0_eq]; rfl
  rewrite [hp]
  exact LeftO.of_pieces (H₀ := heap_52) (H₁ := heap_510) open_ size run (by decide) looks
theorem said : PySem.W.OpenLaw.wellSaid PySem.Challenge.rw_ik0034_01 = true := by rewrite [RW0_eq]; exact said0
end hd
end Mine
namespace Mine
theorem ne_off2 {a : Nat} : a + 1 + 1 ≠ a := by omega
theorem ne_off3 {a : Nat} : a + 1 + 1 + 1 ≠ a := by omega
theorem ne_off4 {a : Nat} : a + 1 + 1 + 1 + 1 ≠ a := by omega
theorem ne_off5 {a : Nat} : a + 1 + 1 + 1 + 1 + 1 ≠ a := by omega
end Mine
namespace Mine
noncomputable abbrev Lo : List Str := looseW hd.view_39
    [Str.ofString "_QUOPRI_MAP", Str.ofString "_QUOPRI_HEADER_MAP", Str.ofString "_QUOPRI_BODY_MAP",
      Str.ofString "ascii_letters", Str.ofString "hexdigits", Str.ofString "_QUOPRI_BODY_ENCODE_MAP",
      Str.ofString "body_encode", Str.ofString "decode", Str.ofString "UNKNOWN"]
end Mine
local macro_rules | `(tactic| walk_at $s:str) => `(tactic| k_extra $(Lean.Syntax.mkStrLit ("my " ++ s.getString)))
local macro_rules | `(tactic| k_ne) => `(tactic| (refine neN ?_; (try dsimp only); first | k_extra "ne" | omega))
namespace Mine
section TextU1
set_option maxRecDepth 100000
set_option maxHeartbeats 8000000
theorem typeCall_int_2 (a b : Value) : checkTypeCall "int" ⟨[a, b], []⟩ = pure () := by kernel_rfl
theorem newCall_int_2 (a b : Value) : checkBuiltinCall "int.__new__" ⟨[.type "int", a, b], []⟩ = pure () := by kernel_rfl
theorem args_object_init_3 (a b c : Value) : argsOk "object.__init__" ⟨[a, b, c], []⟩ := by unfold argsOk; kernel_rfl

theorem hex_text {M : Model} {A : Around} {E : Value → Shared → Prop} {s : Shared} {Q : Value → Shared → Prop} {v : Value} {text : List Nat} {n : Int}
    (hs : (text.takeWhile (· != 0)).length ≤ 640) (hr : (int_private% "readNumeral") 0 16 (text.takeWhile (· != 0)) = (int_private% "Numeral.value") n)
    (ha : ((text.takeWhile (· != 0)).length == text.length) = true) (h : Q (.int n s.toks) { s with toks := s.toks + 1 }) :
    wpAny M A ((int_private% "intFromText") v text 16) Q E s := by
  obtain ⟨hp, g, d, tk, os⟩ := s
  repeat (any_goals (first
    | assumption
    | (with_reducible refine wpAny_ite_true (decide_eq_true hs) ?_)
    | (with_reducible refine wpAny_ite_true (decide_eq_true ha) ?_)
    | wp_step))
  all_goals (try rw [hr])
  all_goals (try dsimp only)
  repeat (any_goals (first
    | assumption
    | (with_reducible refine wpAny_ite_true (decide_eq_true hs) ?_)
    | (with_reducible refine wpAny_ite_true (decide_eq_true ha) ?_)
    | wp_step))



theorem hex_3D {u t : Tok} : Gives (Builtin.«int.__new__» ⟨[.type "int", .str ⟨#[51, 68]⟩ u, .int 16 t], []⟩) (.int 61) :=
  .of_wp fun M A E s Q h => by
    obtain ⟨hp, g, d, tk, os⟩ := s
    have f1 := F.conv_sub_int
    have f2 := F.madeHere_int
    have f6 : typeOf (.str ⟨#[51, 68]⟩ u) = pure (.type "str") := rfl
    repeat (any_goals (first
      | assumption
      | ((fail_if_success (with_reducible show wpAny _ _ ((int_private% "intFromText") _ _ _) _ _ _)); wp_step)))
    refine hex_text (n := 61) (by decide +kernel) (by kernel_rfl) (by decide +kernel) ?_
    repeat (any_goals (first
      | assumption
      | wp_step))
    exact ⟨_, rfl, h⟩
theorem hex_E9 {u t : Tok} : Gives (Builtin.«int.__new__» ⟨[.type "int", .str ⟨#[69, 57]⟩ u, .int 16 t], []⟩) (.int 233) :=
  .of_wp fun M A E s Q h => by
    obtain ⟨hp, g, d, tk, os⟩ := s
    have f1 := F.conv_sub_int
    have f2 := F.madeHere_int
    have f6 : typeOf (.str ⟨#[69, 57]⟩ u) = pure (.type "str") := rfl
    repeat (any_goals (first
      | assumption
      | ((fail_if_success (with_reducible show wpAny _ _ ((int_private% "intFromText") _ _ _) _ _ _)); wp_step)))
    refine hex_text (n := 233) (by decide +kernel) (by kernel_rfl) (by decide +kernel) ?_
    repeat (any_goals (first
      | assumption
      | wp_step))
    exact ⟨_, rfl, h⟩
theorem hex_20 {u t : Tok} : Gives (Builtin.«int.__new__» ⟨[.type "int", .str ⟨#[50, 48]⟩ u, .int 16 t], []⟩) (.int 32) :=
  .of_wp fun M A E s Q h => by
    obtain ⟨hp, g, d, tk, os⟩ := s
    have f1 := F.conv_sub_int
    have f2 := F.madeHere_int
    have f6 : typeOf (.str ⟨#[50, 48]⟩ u) = pure (.type "str") := rfl
    repeat (any_goals (first
      | assumption
      | ((fail_if_success (with_reducible show wpAny _ _ ((int_private% "intFromText") _ _ _) _ _ _)); wp_step)))
    refine hex_text (n := 32) (by decide +kernel) (by kernel_rfl) (by decide +kernel) ?_
    repeat (any_goals (first
      | assumption
      | wp_step))
    exact ⟨_, rfl, h⟩
theorem hex_09 {u t : Tok} : Gives (Builtin.«int.__new__» ⟨[.type "int", .str ⟨#[48, 57]⟩ u, .int 16 t], []⟩) (.int 9) :=
  .of_wp fun M A E s Q h => by
    obtain ⟨hp, g, d, tk, os⟩ := s
    have f1 := F.conv_sub_int
    have f2 := F.madeHere_int
    have f6 : typeOf (.str ⟨#[48, 57]⟩ u) = pure (.type "str") := rfl
    repeat (any_goals (first
      | assumption
      | ((fail_if_success (with_reducible show wpAny _ _ ((int_private% "intFromText") _ _ _) _ _ _)); wp_step)))
    refine hex_text (n := 9) (by decide +kernel) (by kernel_rfl) (by decide +kernel) ?_
    repeat (any_goals (first
      | assumption
      | wp_step))
    exact ⟨_, rfl, h⟩

theorem call_hex {prog : Program} {w : World} {A : Around} {E : Value → Shared → Prop} {s : Shared} {Q : Value → Shared → Prop} {x : PySem.Str} {t u : Tok} {n : Int}
    (g : ∀ {u t : Tok}, Gives (Builtin.«int.__new__» ⟨[.type "int", .str x u, .int 16 t], []⟩) (.int n)) (h : Q (.int n s.toks) { s with toks := s.toks + 1 }) : wpAny (model prog w) A (call (.type "int") [.str x t, .int 16 u]) Q E s :=
  callType_new F.called_int F.newNe_int (typeCall_int_2 _ _) (newCall_int_2 _ _) (fun obj => args_object_init_3 obj _ _) F.entry_int_new g.meets (show (Made.int n).post _ s from ⟨rfl, h⟩)

theorem call_hexS {prog : Program} {w : World} {A : Around} {E : Value → Shared → Prop} {s : Shared} {Q : Value → Shared → Prop} {x : PySem.Str} {t u : Tok} (x' : PySem.Str) (n : Int)
    (hx : x = x') (g : ∀ {u t : Tok}, Gives (Builtin.«int.__new__» ⟨[.type "int", .str x' u, .int 16 t], []⟩) (.int n)) (h : Q (.int n s.toks) { s with toks := s.toks + 1 }) : wpAny (model prog w) A (call (.type "int") [.str x t, .int 16 u]) Q E s := by
  subst hx
  exact call_hex g h
theorem str_3D : PySem.Str.ofString "3D" = ⟨#[51, 68]⟩ := by decide +kernel
theorem str_E9 : PySem.Str.ofString "E9" = ⟨#[69, 57]⟩ := by decide +kernel
theorem str_20 : PySem.Str.ofString "20" = ⟨#[50, 48]⟩ := by decide +kernel
theorem str_09 : PySem.Str.ofString "09" = ⟨#[48, 57]⟩ := by decide +kernel
end TextU1
end Mine
namespace Mine
section TextTR1
set_option maxRecDepth 100000
set_option maxHeartbeats 1000000
section
variable {prog : Program} {w : World} {A : Around} {E : Value → Shared → Prop} {s : Shared}

theorem gm_translate {M : Model} {x : PySem.Str} {t : Tok} {pl : Sem Bool} {Q : Value × List Value → Shared → Prop} (h : Q (.builtin "str.translate", [.str x t]) s) : wpAny M A (getMethod (.str x t) "translate" pl) Q E s := by
  with_reducible exact GM.of (.str x t) (typeIs_str _ _ _) F.slot_str_translate F.type_str_translate GM.noRef h

theorem lookup_text {l : Addr} {items : Array Value} {c : Nat} {y : PySem.Str} {u : Tok} {Q : Builtin.Str.Mapped → Shared → Prop}
    (hl : s.heap.IsList l items) (hx : items[c]? = some (.str y u)) (hc : c < 2 ^ 63) (h : Q (.text y) { s with toks := s.toks + 1 }) :
    wpAny (model prog w) A (Builtin.Str.tableLookup (.ref l) c) Q E s := by
  unfold Builtin.Str.tableLookup
  refine wpAny_bind (wpAny_attempt (wpAny_bind (wpAny_mkInt (wpAny_getItem_list (s := { s with toks := s.toks + 1 }) hl (Int.natCast_nonneg c) (by omega) (by simpa using hx) ?_))))
  obtain ⟨hp, g, d, tk, os⟩ := s
  repeat (any_goals (first | assumption | wp_step))

noncomputable def trInv (l : Addr) (items : Array Value) (f : Nat → List Nat) (full : List Nat) (s : Shared) (rest : List Nat) (b : List PySem.Str × Nat × Bool × List (Nat × Option Nat) × Bool) (s' : Shared) : Prop :=
  (∃ tk, s' = { s with toks := tk }) ∧ b.2.2.2.2 = false ∧ b.1.reverse.flatMap (fun p => p.cps.toList) ++ rest.flatMap f = full ∧ b.2.1 = (b.1.reverse.flatMap (fun p => p.cps.toList)).length ∧
  (∀ c a, b.2.2.2.1.lookup c = some a → ∃ d, a = some d ∧ f c = [d]) ∧ ∀ c ∈ rest, ∃ u, items[c]? = some (.str ⟨(f c).toArray⟩ u) ∧ c < 2 ^ 63

theorem tr_push {ps : List PySem.Str} {y : PySem.Str} : ((y :: ps).reverse.flatMap fun p => p.cps.toList) = (ps.reverse.flatMap fun p => p.cps.toList) ++ y.cps.toList := by
  rw [List.reverse_cons, List.flatMap_append, List.flatMap_cons, List.flatMap_nil, List.append_nil]

theorem tr_step {l : Addr} {items : Array Value} {f : Nat → List Nat} {full : List Nat} {c : Nat} {rest : List Nat} {ps : List PySem.Str} {n : Nat} {fast fast' : Bool} {known known' : List (Nat × Option Nat)} {s s' : Shared} {tk : Nat} {y : PySem.Str}
    (h : trInv l items f full s (c :: rest) (ps, n, fast, known, false) s') (hy : y.cps.toList = f c) (hk : ∀ c a, known'.lookup c = some a → ∃ d, a = some d ∧ f c = [d]) :
    trInv l items f full s rest (y :: ps, n + y.length, fast', known', false) { s with toks := tk } := by
  obtain ⟨_, _, h2, h3, h4, h5⟩ := h
  dsimp only at h2 h3
  refine ⟨⟨tk, rfl⟩, rfl, ?_, ?_, hk, fun c hc => h5 c (List.mem_cons_of_mem _ hc)⟩
  · dsimp only; rw [tr_push, hy, List.append_assoc, ← List.flatMap_cons]; exact h2
  · dsimp only; rw [tr_push, List.length_append, ← h3]; show n + y.cps.size = _; rw [Array.length_toList]

theorem meets_translate {x : PySem.Str} {t : Tok} {l : Addr} {items : Array Value} {f : Nat → List Nat} (hne : x.length ≠ 0) (hT : ∀ c ∈ x.cps.toList, ∃ u, items[c]? = some (.str ⟨(f c).toArray⟩ u) ∧ c < 2 ^ 63)
    (hsz : (x.cps.toList.flatMap f).length ≤ sizeLine) :
    Meets (Builtin.«str.translate» ⟨[.str x t, .ref l], []⟩) (fun _ R s => s.heap.IsList l items ∧ ∀ t tk, R (.ok (.ret (.str ⟨(x.cps.toList.flatMap f).toArray⟩ t))) { s with toks := tk }) := by
  refine .of_wp fun prog w A R s h => ?_
  obtain ⟨hl, hR⟩ := h
  unfold Builtin.«str.translate»
  show wpAny _ _ (if (x.length == 0) = true then _ else _) _ _ s
  refine wpAny_ite_false (by simpa using hne) ?_
  dsimp only
  refine wpAny_bind ?_
  refine MeetsSeq2.wpAny_forIn_array _ (trInv l items f (x.cps.toList.flatMap f) s) _ ?turn ?fin x.cps _ ⟨⟨s.toks, rfl⟩, rfl, by simp, by simp, (by intro c a h; simp at h), hT⟩
  case turn =>
    rintro c rest ⟨ps, n, fast, known, drop⟩ s' hI
    obtain ⟨⟨tk, rfl⟩, h1, h2, h3, h4, h5⟩ := id hI
    dsimp only at h1 h2 h3 h4
    subst h1
    obtain ⟨u, hx, hc⟩ := h5 c List.mem_cons_self
    have hn : n ≤ sizeLine := by
      rw [h3]; refine Nat.le_trans ?_ hsz
      rw [← h2, List.length_append]; omega
    dsimp only
    refine wpAny_ite_false (by unfold Builtin.Str.tooLong; simp; omega) ?_
    have slow : ∀ (fa : Bool) (kn : List (Nat × Option Nat)) (tk : Nat), (∀ c a, kn.lookup c = some a → ∃ d, a = some d ∧ f c = [d]) → wpAny (model prog w) A.in1 (do
        let __do_lift ← Builtin.Str.tableLookup (.ref l) c
        match __do_lift with
          | Builtin.Str.Mapped.keep => pure (ForInStep.yield (({ cps := #[c] } : PySem.Str) :: ps, n + 1, fa, kn, false))
          | Builtin.Str.Mapped.drop => pure (ForInStep.yield (ps, n, fa, kn, true))
          | Builtin.Str.Mapped.char d => pure (ForInStep.yield (({ cps := #[d] } : PySem.Str) :: ps, n + 1, fa, kn, false))
          | Builtin.Str.Mapped.text t => pure (ForInStep.yield (t :: ps, n + t.length, fa, kn, false)))
        (fun r s' => match r with | .yield b' => trInv l items f (x.cps.toList.flatMap f) s rest b' s' | .done b' => False) (fun _ _ => False) { s with toks := tk } := by
      intro fa kn tk hk
      refine wpAny_bind (lookup_text (s := { s with toks := tk }) hl hx hc (wpAny_pure ?_))
      exact tr_step hI rfl hk
    cases fast with
    | false =>
      simp only [Bool.false_eq_true, if_false]
      refine wpAny_mono (slow false known tk h4) (fun r s' hr => ?_) (fun _ _ e => e.elim)
      cases r with
      | yield b => exact hr
      | done b => exact hr.elim
    | true =>
      simp only [if_true]
      cases hkn : known.lookup c with
      | some a =>
        obtain ⟨d, rfl, hd⟩ := h4 c a hkn
        dsimp only
        refine wpAny_bind (wpAny_pure (wpAny_pure ?_))
        exact tr_step (y := ⟨#[d]⟩) hI (by simp [hd]) h4
      | none =>
        dsimp only
        refine wpAny_bind (lookup_text (s := { s with toks := tk }) hl hx hc ?_)
        dsimp only
        by_cases hlen : (((⟨(f c).toArray⟩ : PySem.Str).length == 1) && (⟨(f c).toArray⟩ : PySem.Str).cps.all fun x => decide (x < 128)) = true
        · rw [if_pos hlen]
          obtain ⟨d, hd⟩ : ∃ d, f c = [d] := by
            have h9 : (f c).length = 1 := by
              have := (Bool.and_eq_true_iff.mp hlen).1
              simpa [PySem.Str.length] using this
            exact List.length_eq_one_iff.mp h9
          have e0 : (⟨(f c).toArray⟩ : PySem.Str).cps[0]? = some d := by simp [hd]
          rw [e0]
          dsimp only
          refine wpAny_bind (wpAny_pure (wpAny_pure ?_))
          refine tr_step (y := ⟨#[d]⟩) hI (by simp [hd]) ?_
          intro c' a' hca
          rw [List.lookup_cons] at hca
          by_cases hcc : (c' == c) = true
          · rw [hcc] at hca
            simp only [Option.some.injEq] at hca
            rw [beq_iff_eq.mp hcc]
            exact ⟨d, hca.symm, hd⟩
          · rw [Bool.not_eq_true] at hcc
            rw [hcc] at hca
            exact h4 c' a' hca
        · rw [if_neg hlen]
          dsimp only
          refine wpAny_bind (wpAny_pure ?_)
          refine wpAny_bind (wpAny_rule ?_)
          simp only [Bool.false_eq_true, if_false]
          refine wpAny_mono (slow false known (tk + 1) h4) (fun r s' hr => ?_) (fun _ _ e => e.elim)
          cases r with
          | yield b => exact hr
          | done b => exact hr.elim
  case fin =>
    rintro ⟨ps, n, fast, known, drop⟩ s' ⟨⟨tk, rfl⟩, h1, h2, h3, h4, h5⟩
    dsimp only at h1 h2 h3
    rw [List.flatMap_nil, List.append_nil] at h2
    dsimp only
    have h9 : n ≤ sizeLine := by rw [h3, h2]; exact hsz
    refine wpAny_ite_false (by unfold Builtin.Str.tooLong; simp; omega) ?_
    have e9 : ∀ (l : List PySem.Str) (acc : Array Nat), l.foldl (fun acc p => acc ++ p.cps) acc = acc ++ (l.flatMap fun p => p.cps.toList).toArray := by
      intro l
      induction l with
      | nil => intro acc; simp
      | cons p l ih => intro acc; rw [List.foldl_cons, ih, List.flatMap_cons, Array.append_assoc]; congr 1; apply Array.ext'; simp
    rw [e9, h2]
    unfold retStr
    refine wpAny_bind (wpAny_mkStr (wpAny_pure ⟨_, rfl, ?_⟩) (by show (_ : Array Nat).size ≤ _; simp; exact by simpa using hsz))
    have := hR tk (tk + 1)
    simpa using this

theorem translateK {x : PySem.Str} {t : Tok} {l : Addr} {items : Array Value} {Q : Value → Shared → Prop} (f : Nat → List Nat) (hl : s.heap.IsList l items)
    (hne : x.length ≠ 0) (hT : ∀ c ∈ x.cps.toList, ∃ u, items[c]? = some (.str ⟨(f c).toArray⟩ u) ∧ c < 2 ^ 63)
    (hsz : (x.cps.toList.flatMap f).length ≤ sizeLine) (h : ∀ t tk, Q (.str ⟨(x.cps.toList.flatMap f).toArray⟩ t) { s with toks := tk }) :
    wpAny (model prog w) A (call (.builtin "str.translate") [.str x t, .ref l]) Q E s :=
  call_meets PySem.F.slot_str_translate (typeIs_str _ _ _) PySem.F.entry_str_translate (PySem.F.args_str_translate_2 _ _) (meets_translate hne hT hsz) ⟨hl, fun t tk => h t tk⟩
end
end TextTR1
end Mine
namespace Mine
section TextAP1
set_option maxRecDepth 100000
set_option maxHeartbeats 1000000
theorem slot_md_get : Slot "method_descriptor" "__get__" "method_descriptor.__get__" :=
  .of (owner := "method_descriptor") (n := "__get__") (by rw [typeLookup_type, builtinLookup_eq_fast]; kernel_rfl) (by decide +kernel) (by decide +kernel) (by decide +kernel)
    (by first | exact .inl (by decide +kernel) | exact .inr (by decide +kernel)) (by rw [isSubtype_type]; kernel_rfl)
theorem md_no_set : typeLookup (.type "method_descriptor") "__set__" = pure none := by rw [typeLookup_type, builtinLookup_eq_fast]; kernel_rfl
theorem md_no_delete : typeLookup (.type "method_descriptor") "__delete__" = pure none := by rw [typeLookup_type, builtinLookup_eq_fast]; kernel_rfl
theorem entry_md_get : entryFor table "method_descriptor.__get__" = some Builtin.«method_descriptor.__get__» := entryFor_of_tree (by kernel_rfl)
theorem args_md_get (a b c : Value) : argsOk "method_descriptor.__get__" ⟨[a, b, c], []⟩ := by unfold argsOk; kernel_rfl
theorem owner_append : (".".intercalate ("list.append".cutAt '.').dropLast) = "list" := by
  have e0 : "list.append".cutAt '.' = ["list", "append"] := by first | rfl | decide +kernel
  rw [e0]; decide +kernel
theorem sub_append_owner : isSubtype (.type "list") (.type (".".intercalate ("list.append".cutAt '.').dropLast)) = pure true := by
  rw [owner_append, isSubtype_type]; kernel_rfl

section
variable {prog : Program} {w : World} {A : Around} {E : Value → Shared → Prop} {h : Heap} {g : Array GenState} {d : Drawn} {t : Nat} {os : OsState} {a : Addr} {o : Obj}
theorem md_get_append {R : Result → Shared → Prop} (hx : h.get? a = some o) (hc : o.cls = .type "list")
    (hq : R (.ok (.ret (.ref h.objs.size))) ⟨h.push { cls := .type "builtin_function_or_method", data := .fields #[.builtin "list.append", .ref a] }, g, d, t, os⟩) :
    codeAny (model prog w) A (.call (.builtin "method_descriptor.__get__") ⟨[.builtin "list.append", .ref a, .type "list"], []⟩) R ⟨h, g, d, t, os⟩ := by
  have hT : (⟨h, g, d, t, os⟩ : Shared).TypeIs (.ref a) "list" := ⟨_, hx, hc⟩
  have hT5 : (⟨h, g, d, t, os⟩ : Shared).TypeIs (.builtin "list.append") "method_descriptor" := PySem.F.type_list_append
  have f8 := sub_append_owner
  refine codeAny_call_builtin slot_md_get.plain entry_md_get (slot_md_get.check _ _ _ _ _ _ _ _ hT5 (args_md_get _ _ _) ?_)
  repeat (any_goals (first | assumption | wp_step))


theorem append_entry {tk : Tok} {xs : Array Value} {k : Nat} {sl : Array (Option Value)} {Q : Fin → Shared → Prop} (hx : h.get? a = some { cls := .type "list", dict := none, data := .seq xs k, slots := sl })
    (hq : Q (.done (.ret (.ref h.objs.size))) ⟨h.push { cls := .type "builtin_function_or_method", data := .fields #[.builtin "list.append", .ref a] }, g, d, t, os⟩) :
    wpAny (model prog w) A (Builtin.«object.__getattribute__» ⟨[.ref a, .str "append" tk], []⟩) Q E ⟨h, g, d, t, os⟩ := by
  have hT : (⟨h, g, d, t, os⟩ : Shared).TypeIs (.ref a) "list" := ⟨_, hx, rfl⟩
  have hT5 : (⟨h, g, d, t, os⟩ : Shared).TypeIs (.builtin "list.append") "method_descriptor" := PySem.F.type_list_append
  have f4 := PySem.F.slot_list_append.lookup
  have f5 := PySem.F.type_list_append
  have f6 := slot_md_get.lookup
  have f7 := md_no_set
  have f8 := md_no_delete
  have hname : (["__module__", "__name__", "__qualname__", "__doc__", "__annotations__"] : List Str).contains "append" = false := by decide +kernel
  repeat (any_goals (first | assumption | wp_step))
  all_goals (try simp only [hname, Bool.false_eq_true, if_false])
  repeat (any_goals (first | assumption | ((with_reducible show codeAny _ _ (.call (.builtin "method_descriptor.__get__") _) _ _); refine md_get_append hx rfl ?_) | wp_step))

theorem getAttr_append {xs : Array Value} {k : Nat} {sl : Array (Option Value)} {Q : Value → Shared → Prop} (hx : h.get? a = some { cls := .type "list", dict := none, data := .seq xs k, slots := sl })
    (hq : ∀ tk, Q (.ref h.objs.size) ⟨h.push { cls := .type "builtin_function_or_method", data := .fields #[.builtin "list.append", .ref a] }, g, d, tk, os⟩) :
    wpAny (model prog w) A (getAttr (.ref a) "append" true) Q E ⟨h, g, d, t, os⟩ := by
  have hT : ∀ tk', (⟨h, g, d, tk', os⟩ : Shared).TypeIs (.ref a) "list" := fun _ => ⟨_, hx, rfl⟩
  have f3 := PySem.F.slot_list_getattribute.lookup
  have f4 := PySem.F.slot_list_getattribute.bind (.ref a)
  unfold getAttr getAttrBy
  repeat (any_goals (first | assumption | exact hT _ | exact hq _ | ((with_reducible show codeAny _ _ (.call (.builtin "list.__getattribute__") _) _ _); refine codeAny_call_builtin PySem.F.slot_list_getattribute.plain PySem.F.entry_list_ga (PySem.F.slot_list_getattribute.check _ _ _ _ _ _ _ _ (hT _) (PySem.F.args_list_getattribute_2 _ _) (append_entry hx ?_))) | wp_step))

/-- the call of the bound method -/
theorem call_bound {b : Addr} {v : Value} {s : Shared} {Q : Value → Shared → Prop} (hb : s.heap.get? b = some { cls := .type "builtin_function_or_method", data := .fields #[.builtin "list.append", .ref a] })
    {xs : Array Value} {k : Nat} {sl : Array (Option Value)} (hx : s.heap.get? a = some { cls := .type "list", dict := none, data := .seq xs k, slots := sl }) (hq : codeAny (model prog w) A (.builtin "list.append" ⟨[.ref a, v], []⟩) (wants Q E) s) :
    wpAny (model prog w) A (call (.ref b) [v]) Q E s := by
  refine wpAny_call ?_
  obtain ⟨hh, g, dr, t, os⟩ := s
  refine codeAny_of_tree ?_
  show wpAny _ _ (callAny (.ref b) _) _ _ _
  dsimp only at hb hx
  have hT : ∀ tk', (⟨hh, g, dr, tk', os⟩ : Shared).TypeIs (.ref a) "list" := fun _ => ⟨_, hx, rfl⟩
  refine nd_load hb ?_
  show wpAny _ _ (do checkBoundCall "list.append" ⟨[.ref a, v], []⟩; again (.builtin "list.append" ⟨[.ref a, v], []⟩)) _ _ _
  refine wpAny_bind ?_
  have f1 : isSubtype (.type "list") (.type "module") = pure false := by rw [isSubtype_type]; kernel_rfl
  unfold checkBoundCall
  repeat (any_goals (first | assumption | exact hT _ | wp_step))
  exact ⟨Code.quiet_builtin _ (by decide +kernel), hq⟩
end
end TextAP1
end Mine
namespace Mine
section TextAP2
set_option maxRecDepth 100000
set_option maxHeartbeats 1000000
noncomputable def bmo (D : Addr) : Obj := { cls := .type "builtin_function_or_method", data := .fields #[.builtin "list.append", .ref D] }
noncomputable def BoundAt (b D : Addr) (h : Heap) : Prop := h.get? b = some (bmo D)
section
variable {prog : Program} {w : World} {A : Around} {E : Value → Shared → Prop} {s : Shared} {h₀ : Heap} {L : Addr} {m : Str → Option Value} {news news' : List (Addr × Obj)} {D b : Addr}
theorem getAttr_app {its : Array Value} {n : Nat} {Q : Value → Shared → Prop} (F : Fr h₀ L s.heap m) (N : News h₀ L s.heap news) (hm : (D, listOf its n) ∈ news)
    (h : ∀ b h' tk, Fr h₀ L h' m → News h₀ L h' ((b, bmo D) :: news) → (∀ p ∈ news, p.1 < b) → Q (.ref b) { s with heap := h', toks := tk }) :
    wpAny (model prog w) A (getAttr (.ref D) "append" true) Q E s := by
  obtain ⟨hp, g, d, t, os⟩ := s
  refine getAttr_append (xs := its) (k := n) (sl := #[]) (N _ hm).1 fun tk => ?_
  exact h _ _ tk (F.push _) (N.push F _) fun p hp => Heap.lt_size (N p hp).1
theorem keeps_bound {M : Model} (h : Heap) (X : BoundAt b D h) : ∃ k, (k = Keeper.frame ∨ k = Keeper.machine ∨ k = Keeper.boundFrame) ∧ Looks M h (keeperOf (.ref b)) k :=
  ⟨.machine, .inr (.inl rfl), (Looks.ld (part := none) X).andThen .now⟩
theorem bound_at {h : Heap} (N : News h₀ L h news) (hq : (b, bmo D) ∈ news) : BoundAt b D h := N.get hq
theorem callWith_bound {M : Model} {env : Env} {pos : Pos} {first : List Value} {e : Expr} {rest : List Expr} {Q : Value → Shared → Prop} (_N : News h₀ L s.heap news) (_q : (b, bmo D) ∈ news)
    (h : wpAny M A (spliced (backTo pos (starEach (e :: rest) env))) (fun vs s₁ => BoundAt b D s₁.heap ∧ wpAny M A (call (.ref b) (first ++ vs)) Q E s₁) E s)
    (he : starEach (e :: rest) env = (false, eval e env) :: starEach rest env := by rfl) (hplain : (backTo pos (starEach rest env)).any (·.1) = false := by rfl) :
    wpAny M A (callWith pos (.ref b) first (backTo pos (starEach (e :: rest) env)) []) Q E s := by
  rw [he] at h ⊢
  exact callWith_of (P := BoundAt b D) (by show ((false || (backTo pos (starEach rest env)).any (·.1)) || false) = false; rw [hplain]; rfl) keeps_bound (evalArgs_plain h)
theorem append_code {its : Array Value} {n : Nat} {x : Value} {R : Result → Shared → Prop} (ho : s.heap.get? D = some { cls := .type "list", data := .seq its n })
    (h : ∀ h', Heap.SameBut D s.heap h' → h'.get? D = some { cls := .type "list", data := .seq (its.push x) (n + 1) } → R (.ok (.ret .none)) { s with heap := h' })
    (hsz : its.size ≤ sizeLine := by size_fits) :
    codeAny (model prog w) A (.builtin "list.append" ⟨[.ref D, x], []⟩) R s := by
  refine codeAny_builtin entry_list_append ?_
  show wpAny _ _ (updateSeq D (·.push x) >>= fun _ => ret .none) _ _ s
  refine wpAny_bind ?_
  refine wpAny_updateSeq ho rfl (wpAny_pure (h _ (Heap.SameBut.update ..) ?_))
  rw [Heap.get?_update_self _ ho (by rw [mapSeq_push]; rfl), mapSeq_push]
theorem bound_K {its : Array Value} {n : Nat} {x : Value} {Q : Value → Shared → Prop} (F : Fr h₀ L s.heap m) (N : News h₀ L s.heap news) (hq : (b, bmo D) ∈ news) (U : Upd D (listOf its n) (listOf (its.push x) (n + 1)) news news')
    (h : ∀ h', Fr h₀ L h' m → News h₀ L h' news' → Q .none { s with heap := h' }) (hsz : its.size ≤ sizeLine := by size_fits) : wpAny (model prog w) A (call (.ref b) [x]) Q E s := by
  obtain ⟨pre, post, rfl, rfl, a, c⟩ := U.split
  have z := N (D, listOf its n) (List.mem_append.mpr (.inr (.head _)))
  refine call_bound (xs := its) (k := n) (sl := #[]) (N _ hq).1 z.1 (append_code (hsz := hsz) z.1 fun h' hs ho' => ?_)
  exact h h' (F.change hs z.2.1 z.2.2) (news_set N a c hs ho')
end
end TextAP2
end Mine
namespace Mine
section TextSL
set_option maxRecDepth 100000
set_option maxHeartbeats 1000000
noncomputable def SlS {σ : Type} (Led : σ → List (Addr × Obj)) (cst : List (Addr × Obj)) (ps : σ → List (Str × Value)) (x : Str) (stored : List Str) (m₀ : Str → Option Value) (P : List Str → σ → Prop) (pre : List Str) (m : Str → Option Value) (nx : List (Addr × Obj)) : Prop :=
  ∃ c : σ, nx = Led c ++ cst ∧ (∀ p ∈ ps c, m p.1 = some p.2) ∧ (∀ z, z ≠ x → (∀ p ∈ ps c, z ≠ p.1) → stored.contains z = false → m z = m₀ z) ∧ P pre c
section
variable {prog : Program} {w : World} {A : Around} {E : Value → Shared → Prop} {s : Shared} {env : Env} {h₀ : Heap} {x : Str} {body : List Stmt} {Q : Flow → Shared → Prop}
theorem sl_end {σ : Type} {Led : σ → List (Addr × Obj)} {cst : List (Addr × Obj)} {ps : σ → List (Str × Value)} {stored : List Str} {m₀ m' : Str → Option Value} {P : List Str → σ → Prop} {pre : List Str} (c c' : σ) {L : Addr} {own news' : List (Addr × Obj)} {s₁ : Shared} {h' : Heap} {tk : Nat}
    (hadr : (Led c').map (·.1) = (Led c).map (·.1)) (h0 : OwnOff own ((Led c ++ cst).map (·.1))) (F : Fr h₀ L h' m') (N : News h₀ L h' news') (hn : ∀ p ∈ Led c' ++ cst, p ∈ news') (ho : ∀ p ∈ own, p ∈ news')
    (hk : ∀ p ∈ ps c', m' p.1 = some p.2) (hr : ∀ z, z ≠ x → (∀ p ∈ ps c', z ≠ p.1) → stored.contains z = false → m' z = m₀ z) (hp : P pre c') :
    InvEndG h₀ L (SlS Led cst ps x stored m₀ P pre) own s₁ { s₁ with heap := h', toks := tk } := by
  refine ⟨h', tk, m', news', Led c' ++ cst, rfl, F, N, hn, ho, ?_, c', rfl, hk, hr, hp⟩
  rw [List.map_append, hadr, ← List.map_append]
  exact h0
theorem strs_get {ls : List (Str × Tok)} {i : Nat} {v : Value} (h : (strValues ls)[i]? = some v) : ∃ y t, v = .str y t ∧ (ls.map (·.1)) = (ls.map (·.1)).take i ++ y :: (ls.map (·.1)).drop (i + 1) ∧ (ls.map (·.1)).take (i + 1) = (ls.map (·.1)).take i ++ [y] := by
  unfold strValues at h
  rw [List.getElem?_map] at h
  cases e : ls[i]? with
  | none => rw [e] at h; cases h
  | some p =>
    rw [e] at h
    have e2 : (ls.map (·.1))[i]? = some p.1 := by rw [List.getElem?_map, e]; rfl
    have hs : (ls.map (·.1)).take (i + 1) = (ls.map (·.1)).take i ++ [p.1] := by simp [List.take_add_one, e2]
    refine ⟨p.1, p.2, (Option.some.inj h).symm, ?_, hs⟩
    have ht := List.take_append_drop (i + 1) (ls.map (·.1))
    rw [hs, List.append_assoc] at ht
    exact ht.symm
theorem sl_iter {σ : Type} {l : Addr} {ls : List (Str × Tok)} {nn : Nat} {m₀ : Str → Option Value} {news : List (Addr × Obj)} (Led : σ → List (Addr × Obj)) (cst : List (Addr × Obj)) (ps : σ → List (Str × Value)) (stored : List Str) (P : List Str → σ → Prop) (c₀ : σ)
    (hh : A.handled = none) (hl : (l, listOf (strValues ls).toArray nn) ∈ cst) (F : Fr h₀ env.locals s.heap m₀) (N : News h₀ env.locals s.heap news) (hn : ∀ p ∈ Led c₀ ++ cst, p ∈ news) (hk : ∀ p ∈ ps c₀, m₀ p.1 = some p.2) (hp : P [] c₀)
    (turn : ∀ (c : σ) pre y t post (u : Str → Option Value) h tk own, ls.map (·.1) = pre ++ y :: post → OwnOff own ((Led c ++ cst).map (·.1)) → P pre c →
      Fr h₀ env.locals h (fun z => if z = x then some (.str y t) else kstB (fun z => if stored.contains z then u z else m₀ z) (ps c) z) → News h₀ env.locals h (Led c ++ (cst ++ own)) →
      wpAny (model prog w) A (execs body env) (InvPostG h₀ env.locals (SlS Led cst ps x stored m₀ P (pre ++ [y])) own { s with heap := h, toks := tk } Q) E { s with heap := h, toks := tk })
    (done : ∀ (c : σ) (u : Str → Option Value) h tk, P (ls.map (·.1)) c → Fr h₀ env.locals h (fun y => if y = x then u y else kstB (fun z => if stored.contains z then u z else m₀ z) (ps c) y) → News h₀ env.locals h (Led c ++ cst) → Q .next { s with heap := h, toks := tk }) :
    wpAny (model prog w) A (pyIter (.ref l)) (fun it s₂ => LoopAtV prog w A h₀ env x body Q E it s₂) E s := by
  have hlen : (strValues ls).length = (ls.map (·.1)).length := by simp [strValues]
  refine kdl_iter (news := Led c₀ ++ cst) (fun i m nx => SlS Led cst ps x stored m₀ P ((ls.map (·.1)).take i) m nx) hh (List.mem_append.mpr (.inr hl)) F (fun p hp => N p (hn p hp)) ⟨c₀, rfl, hk, fun _ _ _ _ => rfl, by simpa using hp⟩ ?_ ?_
  · rintro i v m₁ nx h tk own hv hoff _ ⟨c, rfl, h1, h2, hp'⟩ F₁ N₁
    obtain ⟨y, t, rfl, e, hs⟩ := strs_get hv
    rw [List.append_assoc] at N₁
    refine wpAny_mono (turn c _ y t _ m₁ h tk own e hoff hp' (kst_fr h1 h2 F₁) N₁) (fun f s₂ p => ?_) fun _ _ x => x
    have up : InvEndG h₀ env.locals (SlS Led cst ps x stored m₀ P ((ls.map (·.1)).take i ++ [y])) own { s with heap := h, toks := tk } s₂ →
        InvEndG h₀ env.locals (fun m' nx => (l, listOf (strValues ls).toArray nn) ∈ nx ∧ SlS Led cst ps x stored m₀ P ((ls.map (·.1)).take (i + 1)) m' nx) own { s with heap := h, toks := tk } s₂ := by
      rintro ⟨h', tk', m', news', nx', e', F', N', hn', ho', ha, hS⟩
      refine ⟨h', tk', m', news', nx', e', F', N', hn', ho', ha, ?_, by rw [hs]; exact hS⟩
      obtain ⟨c', rfl, _⟩ := hS
      exact List.mem_append.mpr (.inr hl)
    cases f with
    | ret v => exact p
    | brk => exact p
    | next => exact up p
    | cont => exact up p
  · rintro m₁ nx h tk ⟨c, rfl, h1, h2, hp'⟩ F₁ N₁
    rw [hlen, List.take_length] at hp'
    exact done c m₁ h tk hp' (kst_frOut h1 h2 F₁) N₁

/-- the end of a turn that grows one list of texts -/
noncomputable def GrowEnd (h₀ : Heap) (L : Addr) (x : Str) (stored : List Str) (m₀ : Str → Option Value) (lE : Addr) (rest : List (Addr × Obj)) (R : List (Str × Tok) → Prop) (s : Shared) (f : Flow) (s₂ : Shared) : Prop :=
  match f with
  | .ret _ => False
  | .brk => False
  | _ => ∃ c' h' tk' m', s₂ = { s with heap := h', toks := tk' } ∧ Fr h₀ L h' m' ∧ News h₀ L h' ((lE, listOf (strValues c').toArray c'.length) :: rest) ∧ (∀ z, z ≠ x → stored.contains z = false → m' z = m₀ z) ∧ R c'
theorem grow_end {L : Addr} {stored : List Str} {m₀ m' : Str → Option Value} {lE : Addr} {rest : List (Addr × Obj)} {R : List (Str × Tok) → Prop} {h' : Heap} {tk : Nat} {its : Array Value} {n : Nat} (c' : List (Str × Tok))
    (F : Fr h₀ L h' m') (N : News h₀ L h' ((lE, listOf its n) :: rest)) (hi : its = (strValues c').toArray) (hn : n = c'.length) (hr : ∀ z, z ≠ x → stored.contains z = false → m' z = m₀ z) (hR : R c') :
    GrowEnd h₀ L x stored m₀ lE rest R s .next { s with heap := h', toks := tk } := by
  subst hi hn
  exact ⟨c', h', tk, m', rfl, F, N, hr, hR⟩
theorem strs_push {c : List (Str × Tok)} {y : Str} {t : Tok} : (strValues c).toArray.push (.str y t) = (strValues (c ++ [(y, t)])).toArray := by
  unfold strValues
  rw [List.map_append, List.push_toArray]; rfl
theorem grow_loop {D b lE : Addr} {ls : List (Str × Tok)} {m₀ : Str → Option Value} {news : List (Addr × Obj)} (stored : List Str) (seg : Str → List Str)
    (hh : A.handled = none) (F : Fr h₀ env.locals s.heap m₀) (N : News h₀ env.locals s.heap ((D, { cls := .type "list", data := .seq (strValues ls).toArray }) :: (b, bmo lE) :: (lE, listOf #[] 0) :: news)) (hD : D ≠ lE) (hb : b ≠ lE) (hnew : ∀ p ∈ news, p.1 ≠ lE)
    (turn : ∀ (c : List (Str × Tok)) pre y t post (u : Str → Option Value) h tk rest, ls.map (·.1) = pre ++ y :: post → c.map (·.1) = pre.flatMap seg → (∀ p ∈ rest, p.1 ≠ lE) → (b, bmo lE) ∈ rest →
      Fr h₀ env.locals h (fun z => if z = x then some (.str y t) else if stored.contains z then u z else m₀ z) → News h₀ env.locals h ((lE, listOf (strValues c).toArray c.length) :: rest) →
      wpAny (model prog w) A (execs body env) (GrowEnd h₀ env.locals x stored m₀ lE rest (fun c' => ∃ a, c' = c ++ a ∧ a.map (·.1) = seg y) { s with heap := h, toks := tk }) E { s with heap := h, toks := tk })
    (done : ∀ (c : List (Str × Tok)) (u : Str → Option Value) h tk, c.map (·.1) = (ls.map (·.1)).flatMap seg → Fr h₀ env.locals h (fun y => if y = x then u y else if stored.contains y then u y else m₀ y) → News h₀ env.locals h ((lE, listOf (strValues c).toArray c.length) :: (b, bmo lE) :: news) → Q .next { s with heap := h, toks := tk }) :
    wpAny (model prog w) A (pyIter (.ref D)) (fun it s₂ => LoopAtV prog w A h₀ env x body Q E it s₂) E s := by
  refine sl_iter (σ := List (Str × Tok)) (nn := 0) (fun c => [(lE, listOf (strValues c).toArray c.length)]) ((D, listOf (strValues ls).toArray 0) :: (b, bmo lE) :: news) (fun _ => []) stored (fun pre c => c.map (·.1) = pre.flatMap seg) [] hh List.mem_cons_self F N ?_ (fun _ hp => nomatch hp) rfl ?_ ?_
  · intro p hp
    simp only [List.cons_append, List.nil_append, List.mem_cons] at hp ⊢
    rcases hp with rfl | rfl | rfl | hp
    · exact .inr (.inr (.inl rfl))
    · exact .inl rfl
    · exact .inr (.inl rfl)
    · exact .inr (.inr (.inr hp))
  · intro c pre y t post u h tk own e off hP F₁ N₁
    refine wpAny_mono (turn c pre y t post u h tk (((D, listOf (strValues ls).toArray 0) :: (b, bmo lE) :: news) ++ own) e hP ?_ ?_ F₁ N₁) (fun f s₂ q => ?_) fun _ _ x => x
    · intro p hp
      rcases List.mem_append.mp hp with hp | hp
      · simp only [List.mem_cons] at hp
        rcases hp with rfl | rfl | hp
        · exact hD
        · exact hb
        · exact hnew p hp
      · exact off p hp _ (List.mem_cons_self)
    · exact List.mem_append.mpr (.inl (List.mem_cons_of_mem _ List.mem_cons_self))
    · have fin : GrowEnd h₀ env.locals x stored m₀ lE (((D, listOf (strValues ls).toArray 0) :: (b, bmo lE) :: news) ++ own) (fun c' => ∃ a, c' = c ++ a ∧ a.map (·.1) = seg y) { s with heap := h, toks := tk } .next s₂ →
          InvEndG h₀ env.locals (SlS (fun c => [(lE, listOf (strValues c).toArray c.length)]) ((D, listOf (strValues ls).toArray 0) :: (b, bmo lE) :: news) (fun _ => []) x stored m₀ (fun pre c => c.map (·.1) = pre.flatMap seg) (pre ++ [y])) own { s with heap := h, toks := tk } s₂ := by
        rintro ⟨c', h', tk', m', rfl, F', N', hr, a, rfl, ha⟩
        refine sl_end (s₁ := { s with heap := h, toks := tk }) c (c ++ a) rfl off F' N' ?_ ?_ (fun _ hp => nomatch hp) (fun z h1 _ h3 => hr z h1 h3) ?_
        · intro p hp
          rcases List.mem_append.mp hp with hp | hp
          · rw [List.mem_singleton.mp hp]; exact List.mem_cons_self
          · exact List.mem_cons_of_mem _ (List.mem_append.mpr (.inl hp))
        · exact fun p hp => List.mem_cons_of_mem _ (List.mem_append.mpr (.inr hp))
        · show (c ++ a).map (·.1) = (pre ++ [y]).flatMap seg
          rw [List.map_append, hP, ha, List.flatMap_append]; simp
      cases f with
      | ret v => exact q.elim
      | brk => exact q.elim
      | next => exact fin q
      | cont => exact fin q
  · intro c u h tk hP F₁ N₁
    refine done c u h tk hP F₁ fun p hp => N₁ p ?_
    rcases List.mem_cons.mp hp with rfl | hp
    · exact List.mem_append.mpr (.inl List.mem_cons_self)
    · exact List.mem_append.mpr (.inr (List.mem_cons_of_mem _ hp))
theorem join_grown {L : Addr} {news : List (Addr × Obj)} {D : Addr} {c : List (Str × Tok)} {n : Nat} {y : Str} {t : Tok} {Q : Value → Shared → Prop} (N : News h₀ L s.heap news) (hm : (D, listOf (strValues c).toArray n) ∈ news)
    (hw : ((c.map (·.1)).map (·.length)).sum + (c.length + 1) * y.length ≤ 16777216) (h : ∀ t' k, Q (.str (Txt.join y (c.map (·.1))) t') { s with toks := k }) : wpAny (model prog w) A (call (.builtin "str.join") [.str y t, .ref D]) Q E s := by
  have hi : StrsAre (strValues c).toArray.toList (c.map (·.1)) := strsAre_of_values c
  refine join_list ⟨_, (N _ hm).1, rfl, n, rfl⟩ hi ?_ h
  rw [List.length_map]
  refine Nat.le_trans (Nat.add_le_add_left (Nat.mul_le_mul_right _ (Nat.le_succ _)) _) hw
theorem join_grown1 {L : Addr} {news : List (Addr × Obj)} {D : Addr} {c : List (Str × Tok)} {n : Nat} {y : Str} {t u : Tok} {Q : Value → Shared → Prop} (N : News h₀ L s.heap news) (hm : (D, listOf ((strValues c).toArray.push (.str (Str.ofString "") u)) n) ∈ news)
    (hw : ((c.map (·.1)).map (·.length)).sum + (c.length + 1) * y.length ≤ 16777216) (h : ∀ t' k, Q (.str (Txt.join y (c.map (·.1) ++ [Str.ofString ""])) t') { s with toks := k }) : wpAny (model prog w) A (call (.builtin "str.join") [.str y t, .ref D]) Q E s := by
  rw [strs_push] at hm
  have hi : StrsAre (strValues (c ++ [(Str.ofString "", u)])).toArray.toList ((c ++ [(Str.ofString "", u)]).map (·.1)) := strsAre_of_values _
  refine join_list ⟨_, (N _ hm).1, rfl, n, rfl⟩ hi ?_ (by rw [List.map_append]; exact h)
  rw [List.map_append, List.map_append, List.sum_append, List.length_append, List.length_map]
  have e : (Str.ofString "").length = 0 := by decide +kernel
  simp only [List.map_cons, List.map_nil, List.sum_cons, List.sum_nil, e, List.length_cons, List.length_nil]
  omega
end
end TextSL
end Mine
namespace Mine
section TextDP
set_option maxRecDepth 100000
set_option maxHeartbeats 1000000
theorem idx_at {p n : Nat} (h : p < n) : seqIndex? (p : Int) n = some p := by
  unfold seqIndex?
  have h1 : ¬ ((p : Int) < 0) := by omega
  simp only [h1, if_false]
  simp; omega
theorem cps_len {y : Str} {l : List Nat} (h : y.cps.toList = l) : y.length = l.length := by
  rw [← h]; exact Array.length_toList.symm
/-- the sign at a place -/
theorem item_at {y : Str} {p q : List Nat} {c : Nat} {r : List Nat} (h : y.cps.toList = p ++ q) (hq : q = c :: r) {i : Int} (hi : i = (p.length : Int)) : Txt.item y i = ⟨#[c]⟩ := by
  subst hi hq
  have hl : y.length = p.length + (r.length + 1) := by rw [cps_len h]; simp
  have e2 : y.cps[p.length]? = some c := by
    rw [← Array.getElem?_toList, h]; simp
  unfold Txt.item Txt.charAt
  rw [idx_at (by omega)]
  show (⟨#[(y.cps[p.length]?).getD 0]⟩ : Str) = _
  rw [e2]; rfl
theorem slice_at {y : Str} {p q r : List Nat} (h : y.cps.toList = p ++ (q ++ r)) {i j : Int} (hi : i = (p.length : Int)) (hj : j = (p.length : Int) + q.length) : Txt.slice y (some i) (some j) = ⟨q.toArray⟩ := by
  have hl : y.cps.toList.length = p.length + (q.length + r.length) := by rw [h]; simp
  have e : Txt.slice y (some i) (some j) = StrLaws.sliceText y (some i) (some j) := rfl
  rw [e, StrLaws.sliceText_plain ⟨by omega, by omega, by omega⟩, hi, hj, h]
  have : ((p.length : Int) + q.length - p.length).toNat = q.length := by omega
  rw [this]
  simp
theorem slice_from {y : Str} {p q : List Nat} (h : y.cps.toList = p ++ q) {i : Int} (hi : i = (p.length : Int)) : Txt.slice y (some i) none = ⟨q.toArray⟩ := by
  have hl : y.cps.toList.length = p.length + q.length := by rw [h]; simp
  have e : Txt.slice y (some i) none = StrLaws.sliceText y (some i) none := rfl
  rw [e, StrLaws.sliceText_from ⟨by omega, by omega⟩, hi, h]
  have : (((p ++ q).length : Int) - p.length).toNat = q.length := by simp; omega
  rw [this]
  simp

/-- a token of a letter's line: a sign, and whether it stands quoted -/
noncomputable def hexq (c : Nat) : List Nat := if c = 61 then [61, 51, 68] else if c = 233 then [61, 69, 57] else if c = 32 then [61, 50, 48] else [61, 48, 57]
noncomputable def tk (p : Nat × Bool) : List Nat := if p.2 = true then hexq p.1 else [p.1]
noncomputable def TkOk (p : Nat × Bool) : Prop := if p.2 = true then (p.1 = 61 ∨ p.1 = 233 ∨ p.1 = 32 ∨ p.1 = 9) else p.1 ≠ 61
noncomputable def tail (soft : Bool) : List Nat := if soft = true then [61] else []
noncomputable def LineTk (y : Str) (sg : List (Nat × Bool)) (soft : Bool) : Prop := y.cps.toList = sg.flatMap tk ++ tail soft ∧ (∀ p ∈ sg, TkOk p)
noncomputable def decOf (sg : List (Nat × Bool)) (soft : Bool) : List Nat := sg.map (·.1) ++ (if soft = true then [] else [10])
/-- where the walk along a line stands -/
noncomputable def WOk (sg : List (Nat × Bool)) (soft : Bool) (y : Str) (d0 : List Nat) (i : Int) (d : Str) : Prop :=
  (∃ a b, sg = a ++ b ∧ i = ((a.flatMap tk).length : Int) ∧ d.cps.toList = d0 ++ a.map (·.1) ∧ (b ≠ [] ∨ soft = true)) ∨ (i = (y.length : Int) ∧ d.cps.toList = d0 ++ decOf sg soft)

theorem tk_pos (p : Nat × Bool) : 1 ≤ (tk p).length := by
  unfold tk hexq
  split
  · (repeat' split) <;> simp
  · simp
theorem tks_pos {b : List (Nat × Bool)} (h : b ≠ []) : 1 ≤ (b.flatMap tk).length := by
  cases b with
  | nil => exact absurd rfl h
  | cons p r => rw [List.flatMap_cons, List.length_append]; have := tk_pos p; omega
theorem tks_map (b : List (Nat × Bool)) : (b.map (·.1)).length ≤ (b.flatMap tk).length := by
  induction b with
  | nil => simp
  | cons p r ih => rw [List.flatMap_cons, List.length_append, List.map_cons, List.length_cons]; have := tk_pos p; omega
theorem tail_len {soft : Bool} : (tail soft).length = if soft = true then 1 else 0 := by unfold tail; split <;> rfl

/-- what is at hand at a place that is not the end -/
inductive WView (y : Str) (soft : Bool) (i : Int) : List (Nat × Bool) → Prop where
  | soft : soft = true → (Txt.item y i != Str.ofString "=") = false → i + 1 = (y.length : Int) → WView y soft i []
  | raw {c : Nat} {r : List (Nat × Bool)} : Txt.item y i = ⟨#[c]⟩ → (Txt.item y i != Str.ofString "=") = true →
      ((r = [] ∧ soft = false ∧ i + 1 = (y.length : Int)) ∨ ((r ≠ [] ∨ soft = true) ∧ i + 1 < (y.length : Int))) → WView y soft i ((c, false) :: r)
  | quoted {c : Nat} {r : List (Nat × Bool)} : (Txt.item y i != Str.ofString "=") = false → (c = 61 ∨ c = 233 ∨ c = 32 ∨ c = 9) → Txt.slice y (some i) (some (i + 3)) = ⟨(hexq c).toArray⟩ →
      Txt.item y (i + 1) = ⟨#[(hexq c).getD 1 0]⟩ → Txt.item y (i + 2) = ⟨#[(hexq c).getD 2 0]⟩ →
      ((r = [] ∧ soft = false ∧ i + 3 = (y.length : Int)) ∨ ((r ≠ [] ∨ soft = true) ∧ i + 3 < (y.length : Int))) → WView y soft i ((c, true) :: r)
theorem eq_sign : Str.ofString "=" = ⟨#[61]⟩ := by decide +kernel
theorem hexq_form (c : Nat) : ∃ h1 h2, hexq c = [61, h1, h2] := by
  unfold hexq
  repeat' split
  all_goals exact ⟨_, _, rfl⟩
theorem w_view {y : Str} {sg a b : List (Nat × Bool)} {soft : Bool} {i : Int} (hT : LineTk y sg soft) (h : sg = a ++ b) (hi : i = ((a.flatMap tk).length : Int)) (hb : b ≠ [] ∨ soft = true) :
    i < (y.length : Int) ∧ 0 ≤ i ∧ WView y soft i b := by
  obtain ⟨h1, h2⟩ := hT
  rw [h, List.flatMap_append, List.append_assoc] at h1
  have hl := cps_len h1
  simp only [List.length_append, tail_len] at hl
  have hlt : i < (y.length : Int) := by
    rcases hb with hb | hb
    · have := tks_pos hb; omega
    · rw [hb] at hl; simp [-List.length_flatMap] at hl; omega
  refine ⟨hlt, by omega, ?_⟩
  cases b with
  | nil =>
    have hs : soft = true := by rcases hb with hb | hb; exact absurd rfl hb; exact hb
    subst hs
    simp only [List.flatMap_nil, List.nil_append] at h1
    refine .soft rfl ?_ (by simp [-List.length_flatMap] at hl; omega)
    rw [item_at h1 (show tail true = 61 :: [] from rfl) hi, eq_sign]
    decide +kernel
  | cons p r =>
    obtain ⟨c, q⟩ := p
    have hp : TkOk (c, q) := h2 _ (by rw [h]; simp)
    rw [List.flatMap_cons, List.append_assoc] at h1
    have hrest : (r = [] ∧ soft = false ∧ (((a.flatMap tk).length + (tk (c, q)).length : Nat) : Int) = (y.length : Int)) ∨ ((r ≠ [] ∨ soft = true) ∧ (((a.flatMap tk).length + (tk (c, q)).length : Nat) : Int) < (y.length : Int)) := by
      rw [List.flatMap_cons, List.length_append] at hl
      by_cases hr : r = []
      · subst hr
        cases soft with
        | false => left; refine ⟨rfl, rfl, ?_⟩; simp [-List.length_flatMap] at hl; omega
        | true => right; refine ⟨.inr rfl, ?_⟩; simp [-List.length_flatMap] at hl; omega
      · right; refine ⟨.inl hr, ?_⟩; have := tks_pos hr; omega
    cases q with
    | false =>
      have ht : tk (c, false) = [c] := rfl
      rw [ht] at h1 hrest
      have e1 := item_at h1 (show [c] ++ (r.flatMap tk ++ tail soft) = c :: (r.flatMap tk ++ tail soft) from rfl) hi
      refine .raw e1 ?_ ?_
      · have hc : c ≠ 61 := by unfold TkOk at hp; simpa using hp
        rw [e1, eq_sign]
        have : (⟨#[c]⟩ : Str) ≠ ⟨#[61]⟩ := by intro e; injection e with e; simp at e; exact hc e
        simpa using this
      · simp only [List.length_cons, List.length_nil] at hrest
        rw [hi]; push_cast at hrest; exact hrest
    | true =>
      have ht : tk (c, true) = hexq c := rfl
      have hc : (c = 61 ∨ c = 233 ∨ c = 32 ∨ c = 9) := by unfold TkOk at hp; simpa using hp
      rw [ht] at h1 hrest
      obtain ⟨x1, x2, ex⟩ := hexq_form c
      have hsl := slice_at (i := i) (j := i + 3) h1 hi (by rw [hi, ex]; rfl)
      rw [ex] at h1 hrest
      have e0 := item_at h1 (show [61, x1, x2] ++ (r.flatMap tk ++ tail soft) = 61 :: ([x1, x2] ++ (r.flatMap tk ++ tail soft)) from rfl) hi
      have h1' : y.cps.toList = (a.flatMap tk ++ [61]) ++ ([x1, x2] ++ (r.flatMap tk ++ tail soft)) := by rw [h1]; simp
      have e1 := item_at (i := i + 1) h1' (show [x1, x2] ++ (r.flatMap tk ++ tail soft) = x1 :: ([x2] ++ (r.flatMap tk ++ tail soft)) from rfl) (by rw [hi]; simp)
      have h1'' : y.cps.toList = (a.flatMap tk ++ [61, x1]) ++ ([x2] ++ (r.flatMap tk ++ tail soft)) := by rw [h1]; simp
      have e2 := item_at (i := i + 2) h1'' (show [x2] ++ (r.flatMap tk ++ tail soft) = x2 :: (r.flatMap tk ++ tail soft) from rfl) (by rw [hi]; simp)
      refine .quoted ?_ hc hsl (by rw [ex]; exact e1) (by rw [ex]; exact e2) ?_
      · rw [e0, eq_sign]; decide +kernel
      · simp only [List.length_cons, List.length_nil] at hrest
        rw [hi]; push_cast at hrest; exact hrest
theorem app_cps (a b : Str) : (a ++ b).cps.toList = a.cps.toList ++ b.cps.toList := by
  show (a.cps ++ b.cps).toList = _
  rw [Array.toList_append]
theorem w_start {y : Str} {sg : List (Nat × Bool)} {soft : Bool} {d : Str} (hT : LineTk y sg soft) (hne : (y.length : Int) ≠ 0) : WOk sg soft y d.cps.toList 0 d := by
  refine .inl ⟨[], sg, rfl, rfl, by simp, ?_⟩
  have hl := cps_len hT.1
  by_cases h : sg = []
  · right
    subst h
    cases soft with
    | true => rfl
    | false => simp [tail] at hl; omega
  · exact .inl h
theorem w_len {y : Str} {sg : List (Nat × Bool)} {soft : Bool} {i : Int} {d0 : List Nat} {d : Str} (hT : LineTk y sg soft) (h : WOk sg soft y d0 i d) : d.length ≤ d0.length + y.length + 1 := by
  have hl := cps_len hT.1
  rw [List.length_append] at hl
  have hm := tks_map sg
  rcases h with ⟨a, b, h1, h2, h3, h4⟩ | ⟨h1, h2⟩
  · have := cps_len h3
    rw [List.length_append] at this
    rw [h1, List.map_append, List.length_append] at hm
    rw [h1] at hl
    omega
  · have := cps_len h2
    unfold decOf at this
    rw [List.length_append, List.length_append] at this
    have h9 : (if soft = true then ([] : List Nat) else [10]).length ≤ 1 := by split <;> simp
    omega
theorem w_soft {y : Str} {sg a : List (Nat × Bool)} {soft : Bool} {i : Int} {d0 : List Nat} {d : Str} (h : sg = a ++ []) (hd : d.cps.toList = d0 ++ a.map (·.1)) (hs : soft = true) (hi : i = (y.length : Int)) : WOk sg soft y d0 i d := by
  refine .inr ⟨hi, ?_⟩
  rw [hd, h, hs, List.append_nil]; simp [decOf]
theorem w_fin {y : Str} {sg a : List (Nat × Bool)} {p : Nat × Bool} {soft : Bool} {i : Int} {d0 : List Nat} {d : Str} {c : Nat} (h : sg = a ++ [p]) (hp : p.1 = c) (hd : d.cps.toList = d0 ++ a.map (·.1)) (hs : soft = false) (hi : i = (y.length : Int)) : WOk sg soft y d0 i (d ++ ⟨#[c]⟩ ++ Str.ofString "\n") := by
  refine .inr ⟨hi, ?_⟩
  rw [app_cps, app_cps, hd, h, hs, show (Str.ofString "\n").cps.toList = [10] from by decide +kernel]; simp [decOf, hp]
theorem w_cont {y : Str} {sg a r : List (Nat × Bool)} {p : Nat × Bool} {soft : Bool} {i i' : Int} {d0 : List Nat} {d : Str} {c : Nat} (h : sg = a ++ p :: r) (hp : p.1 = c) (hi : i = ((a.flatMap tk).length : Int)) (hd : d.cps.toList = d0 ++ a.map (·.1)) (hr : r ≠ [] ∨ soft = true) (hi' : i' = i + ((tk p).length : Int)) : WOk sg soft y d0 i' (d ++ ⟨#[c]⟩) := by
  refine .inl ⟨a ++ [p], r, by rw [h]; simp, ?_, ?_, hr⟩
  · rw [hi', hi, List.flatMap_append, List.length_append, List.flatMap_cons, List.flatMap_nil, List.append_nil]; push_cast; rfl
  · rw [app_cps, hd]; simp [hp]
theorem uq_of {z : Str} {c : Nat} (hc : c = 61 ∨ c = 233 ∨ c = 32 ∨ c = 9) (hs : z = ⟨(hexq c).toArray⟩) : z = Str.ofString "=3D" ∧ c = 61 ∨ z = Str.ofString "=E9" ∧ c = 233 ∨ z = Str.ofString "=20" ∧ c = 32 ∨ z = Str.ofString "=09" ∧ c = 9 := by
  rcases hc with rfl | rfl | rfl | rfl
  · exact .inl ⟨hs.trans (by decide +kernel), rfl⟩
  · exact .inr (.inl ⟨hs.trans (by decide +kernel), rfl⟩)
  · exact .inr (.inr (.inl ⟨hs.trans (by decide +kernel), rfl⟩))
  · exact .inr (.inr (.inr ⟨hs.trans (by decide +kernel), rfl⟩))
theorem hexd_in {z : Str} {h : Nat} (e : z = ⟨#[h]⟩) (hm : h ∈ (Str.ofString "0123456789abcdefABCDEF").cps.toList) : (Builtin.Str.occurrences (Str.ofString "0123456789abcdefABCDEF") z 0 (Str.ofString "0123456789abcdefABCDEF").length 1).isEmpty = false := by
  have := StrLaws.found_one (Str.ofString "0123456789abcdefABCDEF") h
  rw [← e, decide_eq_true hm] at this
  simpa using this
theorem hex_digits {c : Nat} (hc : c = 61 ∨ c = 233 ∨ c = 32 ∨ c = 9) : (hexq c).getD 1 0 ∈ (Str.ofString "0123456789abcdefABCDEF").cps.toList ∧ (hexq c).getD 2 0 ∈ (Str.ofString "0123456789abcdefABCDEF").cps.toList := by
  rw [show (Str.ofString "0123456789abcdefABCDEF").cps.toList = [48, 49, 50, 51, 52, 53, 54, 55, 56, 57, 97, 98, 99, 100, 101, 102, 65, 66, 67, 68, 69, 70] from by decide +kernel]
  rcases hc with rfl | rfl | rfl | rfl <;> decide
theorem w_empty {y : Str} {sg : List (Nat × Bool)} {soft : Bool} (hT : LineTk y sg soft) (h0 : (y.length : Int) = 0) : decOf sg soft = [10] := by
  have hl := cps_len hT.1
  rw [List.length_append] at hl
  have h1 : sg = [] := by
    by_cases h : sg = []
    · exact h
    · have := tks_pos h; omega
  have h2 : soft = false := by
    cases soft with
    | false => rfl
    | true => rw [tail_len] at hl; simp [-List.length_flatMap] at hl; omega
  rw [h1, h2]; rfl
theorem dec_one {y : Str} {sg : List (Nat × Bool)} {soft : Bool} (hT : LineTk y sg soft) : (decOf sg soft).length ≤ y.length + 1 := by
  have hl := cps_len hT.1
  rw [List.length_append] at hl
  have hm := tks_map sg
  have h9 : (if soft = true then ([] : List Nat) else [10]).length ≤ 1 := by split <;> simp
  unfold decOf
  rw [List.length_append]; omega
theorem flat_le {α β : Type} {f : α → List β} {b : Nat} : ∀ {l : List α}, (∀ a ∈ l, (f a).length ≤ b) → (l.flatMap f).length ≤ l.length * b
  | [], _ => by simp
  | a :: l, h => by
    rw [List.flatMap_cons, List.length_append, List.length_cons, Nat.succ_mul]
    have h1 := h a List.mem_cons_self
    have h2 := flat_le (l := l) fun x hx => h x (List.mem_cons_of_mem _ hx)
    omega
theorem dec_room {x d : Str} {pre post : List Str} {toks : Str → List (Nat × Bool) × Bool} (hx : x.length ≤ 600) (hlines : ∀ y ∈ Txt.lines x, LineTk y (toks y).1 (toks y).2 ∧ Txt.rstrip y = y) (h : Txt.lines x = pre ++ post)
    (hd : d.cps.toList = pre.flatMap fun y => decOf (toks y).1 (toks y).2) : d.length ≤ 1000000 := by
  have hw := StrLaws.lines_weight x
  have hn : pre.length ≤ 601 := by rw [h, List.length_append] at hw; omega
  have := flat_le (f := fun y => decOf (toks y).1 (toks y).2) (b := 601) (l := pre) fun y hy => by
    have hm : y ∈ Txt.lines x := by rw [h]; exact List.mem_append_left _ hy
    have h1 := dec_one (hlines y hm).1
    have h2 := line_short hm
    omega
  rw [cps_len hd]
  have h3 : pre.length * 601 ≤ 601 * 601 := Nat.mul_le_mul_right _ hn
  omega
noncomputable def decT (x : Str) (D : List Nat) : Str :=
  if x.length = 0 then x
  else if (Builtin.Str.occurrences (Str.ofString "\x0d\n") (Txt.item x (-1)) 0 (Str.ofString "\x0d\n").length 1).isEmpty = true then
    (if Txt.endswith ⟨D.toArray⟩ (Str.ofString "\n") = true then Txt.slice ⟨D.toArray⟩ none (some (-1)) else ⟨D.toArray⟩)
  else ⟨D.toArray⟩
theorem str_of {d : Str} {l : List Nat} (h : d.cps.toList = l) : d = ⟨l.toArray⟩ := by
  rw [← h]
theorem hexq_len {c : Nat} : ((tk (c, true)).length : Int) = 3 := by
  obtain ⟨a, b, e⟩ := hexq_form c
  show ((hexq c).length : Int) = 3
  rw [e]; rfl
end TextDP
end Mine
namespace Mine
section TextC1
set_option maxRecDepth 100000
set_option maxHeartbeats 1000000
theorem fill (w : World) (h : Heap) : (hd.heap_39 w.params).In h → PySem.Challenge.rw_ik0034_01 = PySem.Challenge.rw_ik0034_01 := by
  k_fill
  intro _; rfl
noncomputable def quoteT (x : Str) : Str := if x = ⟨#[32]⟩ then Str.ofString "=20" else Str.ofString "=09"
noncomputable def sgn (c : Nat) : Int := if c = 61 ∨ c = 233 then 3 else 1
theorem sgn_occ (c : Nat) : (if (!(Builtin.Str.occurrences (Str.ofString "=é") ⟨#[c]⟩ 0 (Str.ofString "=é").length 1).isEmpty) = true then PyData.int 3 else PyData.int 1) = PyData.int (sgn c) := by
  rw [StrLaws.found_one, show (Str.ofString "=é").cps.toList = [61, 233] from by decide +kernel]
  unfold sgn
  by_cases h : c = 61 ∨ c = 233
  · rw [if_pos h, if_pos (by simpa using h)]
  · rw [if_neg h, if_neg (by simpa using h)]
theorem sgn_carried {vs : List Value} {x : Str} (h : CarriedAll vs (List.map (fun a => if (!(Builtin.Str.occurrences (Str.ofString "=é") a 0 (Str.ofString "=é").length 1).isEmpty) = true then PyData.int 3 else PyData.int 1) (List.filter (fun _ => true) (signs x)))) :
    IntsAre vs (x.cps.toList.map sgn) := by
  refine CarriedAll.intsOf (f := sgn) ?_
  have e : (List.map (fun a => if (!(Builtin.Str.occurrences (Str.ofString "=é") a 0 (Str.ofString "=é").length 1).isEmpty) = true then PyData.int 3 else PyData.int 1) (List.filter (fun _ => true) (signs x))) = x.cps.toList.map fun a => PyData.int (sgn a) := by
    rw [List.filter_eq_self.mpr (fun _ _ => rfl)]
    unfold signs
    rw [List.map_map]
    exact List.map_congr_left fun c _ => sgn_occ c
  rw [← e]; exact h
section
variable {w : World} {mean : ExcName → Option Value} {mg mb : Str → Option Value} {dp un : Nat} {gd : Option (List Code)} {cn : Str} {cs : Scope} {a : Addr} {ccd : Value} {cl : List (Str × Addr)} {outer : List Env} {A₀ : Around} {base h₀ : Heap} {L : Addr} {m : Str → Option Value} {news : List (Addr × Obj)} {s : Shared}
    {Q E : Value → Shared → Prop}
    (B : Below A₀ base outer h₀) (F : Fr h₀ L s.heap m) (X : (hd.heap_39 w.params).In h₀) (N : News h₀ L s.heap news) (T : Top hd.view_39 Lo mean mg mb h₀) (hk : cs.kind = .function)
include B F X N T hk

theorem words_1 : True := by
  k_with_none
  (k_with "ne" => (first | k_extra "ne0" | k_extra "ne1"))
  (k_with "ne0" => (with_reducible first | assumption | exact Nat.succ_ne_self _ | exact (Nat.succ_ne_self _).symm | exact ne_off2 | exact ne_off2.symm | exact ne_off3 | exact ne_off3.symm | exact ne_off4 | exact ne_off4.symm | exact ne_off5 | exact ne_off5.symm))
  (k_with "ne1" => (((with_reducible rename _ ∧ _ => h9); first | (with_reducible first | exact h9.1.symm | exact Nat.ne_of_gt h9.1 | exact h9.1 | exact Nat.ne_of_lt h9.1 | exact h9.2.1.symm | exact Nat.ne_of_gt h9.2.1 | exact h9.2.1 | exact Nat.ne_of_lt h9.2.1 | exact h9.2.2.1.symm | exact Nat.ne_of_gt h9.2.2.1 | exact h9.2.2.1 | exact Nat.ne_of_lt h9.2.2.1 | exact h9.2.2.2.1.symm | exact Nat.ne_of_gt h9.2.2.2.1 | exact h9.2.2.2.1 | exact Nat.ne_of_lt h9.2.2.2.1 | exact h9.2.2.2.2.1.symm | exact Nat.ne_of_gt h9.2.2.2.2.1 | exact h9.2.2.2.2.1 | exact Nat.ne_of_lt h9.2.2.2.2.1 | exact h9.2.2.2.2.2.1.symm | exact Nat.ne_of_gt h9.2.2.2.2.2.1 | exact h9.2.2.2.2.2.1 | exact Nat.ne_of_lt h9.2.2.2.2.2.1 | exact h9.2.2.2.2.2.2.1.symm | exact Nat.ne_of_gt h9.2.2.2.2.2.2.1 | exact h9.2.2.2.2.2.2.1 | exact Nat.ne_of_lt h9.2.2.2.2.2.2.1 | exact h9.2.2.2.2.2.2.2.1.symm | exact Nat.ne_of_gt h9.2.2.2.2.2.2.2.1 | exact h9.2.2.2.2.2.2.2.1 | exact Nat.ne_of_lt h9.2.2.2.2.2.2.2.1 | exact h9.2.2.2.2.2.2.2.2.1.symm | exact Nat.ne_of_gt h9.2.2.2.2.2.2.2.2.1 | exact h9.2.2.2.2.2.2.2.2.1 | exact Nat.ne_of_lt h9.2.2.2.2.2.2.2.2.1 | exact h9.2.2.2.2.2.2.2.2.2.1.symm | exact Nat.ne_of_gt h9.2.2.2.2.2.2.2.2.2.1 | exact h9.2.2.2.2.2.2.2.2.2.1 | exact Nat.ne_of_lt h9.2.2.2.2.2.2.2.2.2.1 | exact h9.2.2.2.2.2.2.2.2.2.2.1.symm | exact Nat.ne_of_gt h9.2.2.2.2.2.2.2.2.2.2.1 | exact h9.2.2.2.2.2.2.2.2.2.2.1 | exact Nat.ne_of_lt h9.2.2.2.2.2.2.2.2.2.2.1 | exact h9.2.2.2.2.2.2.2.2.2.2.2.1.symm | exact Nat.ne_of_gt h9.2.2.2.2.2.2.2.2.2.2.2.1 | exact h9.2.2.2.2.2.2.2.2.2.2.2.1 | exact Nat.ne_of_lt h9.2.2.2.2.2.2.2.2.2.2.2.1 | exact h9.2.2.2.2.2.2.2.2.2.2.2.2.1.symm | exact Nat.ne_of_gt h9.2.2.2.2.2.2.2.2.2.2.2.2.1 | exact h9.2.2.2.2.2.2.2.2.2.2.2.2.1 | exact Nat.ne_of_lt h9.2.2.2.2.2.2.2.2.2.2.2.2.1 | exact h9.2.2.2.2.2.2.2.2.2.2.2.2.2.1.symm | exact Nat.ne_of_gt h9.2.2.2.2.2.2.2.2.2.2.2.2.2.1 | exact h9.2.2.2.2.2.2.2.2.2.2.2.2.2.1 | exact Nat.ne_of_lt h9.2.2.2.2.2.2.2.2.2.2.2.2.2.1 | exact h9.2.2.2.2.2.2.2.2.2.2.2.2.2.2.1.symm | exact Nat.ne_of_gt h9.2.2.2.2.2.2.2.2.2.2.2.2.2.2.1 | exact h9.2.2.2.2.2.2.2.2.2.2.2.2.2.2.1 | exact Nat.ne_of_lt h9.2.2.2.2.2.2.2.2.2.2.2.2.2.2.1 | exact h9.2.2.2.2.2.2.2.2.2.2.2.2.2.2.2.1.symm | exact Nat.ne_of_gt h9.2.2.2.2.2.2.2.2.2.2.2.2.2.2.2.1 | exact h9.2.2.2.2.2.2.2.2.2.2.2.2.2.2.2.1 | exact Nat.ne_of_lt h9.2.2.2.2.2.2.2.2.2.2.2.2.2.2.2.1) | (clear h9; k_extra "ne1"))))
  (k_with "my call type:int" => ((k_here; (with_reducible show wpAny _ _ (call (Value.type "int") [Value.str _ _, Value.int _ _]) _ _ _); first | refine call_hexS _ 61 (by with_reducible exact str_3D) hex_3D ?_ | refine call_hexS _ 233 (by with_reducible exact str_E9) hex_E9 ?_ | refine call_hexS _ 32 (by with_reducible exact str_20) hex_20 ?_ | refine call_hexS _ 9 (by with_reducible exact str_09) hex_09 ?_)))
  trivial
theorem quote_spec {x : Str} (hx : x = ⟨#[32]⟩ ∨ x = ⟨#[9]⟩) {t : Tok}
    (hdp : dp + 1 < recursionLimit) (hu : un + 8 < cLine)
    (hret : ∀ t h' tk', Fr h₀ L h' m → News h₀ L h' news → (quoteT x).length ≤ 3 → Q (.str (quoteT x) t) { s with heap := h', toks := tk' }) :
    wpAny (model PySem.Challenge.rw_ik0034_01.row.prog w) (ktrTop dp un gd cn cs L a ccd cl outer) (call (.ref 44) [.str x t]) Q E s := by
  rcases hx with rfl | rfl
  all_goals
    refine wpAny_call ?_
    k_dflt ktr_enter
    k_steps
    exact hret _ _ _ (by assumption) (by assumption) (by decide +kernel)
theorem unquote_spec {x : Str} {t : Tok} {c : Nat} (hx : x = Str.ofString "=3D" ∧ c = 61 ∨ x = Str.ofString "=E9" ∧ c = 233 ∨ x = Str.ofString "=20" ∧ c = 32 ∨ x = Str.ofString "=09" ∧ c = 9)
    (hdp : dp + 1 < recursionLimit) (hu : un + 8 < cLine)
    (hret : ∀ t h' tk', Fr h₀ L h' m → News h₀ L h' news → Q (.str ⟨#[c]⟩ t) { s with heap := h', toks := tk' }) :
    wpAny (model PySem.Challenge.rw_ik0034_01.row.prog w) (ktrTop dp un gd cn cs L a ccd cl outer) (call (.ref 37) [.str x t]) Q E s := by
  rcases hx with ⟨hx, hc⟩ | ⟨hx, hc⟩ | ⟨hx, hc⟩ | ⟨hx, hc⟩ 
  all_goals
    subst hx
    subst hc
    refine wpAny_call ?_
    k_dflt ktr_enter
    k_steps
    exact hret _ _ _ (by assumption) (by assumption)
theorem row_spec {x y : Str} {t u v : Tok} {k : Int} 
    (hdp : dp + 1 < recursionLimit) (hu : un + 8 < cLine) (hk0 : 0 ≤ k) (hk7 : k ≤ 7) (hx : x.length ≤ 7) (hy : y.length ≤ 5)
    (hret : ∀ t h' tk', Fr h₀ L h' m → News h₀ L h' news → Q (.str (if k = 0 then y else (Txt.mul (Str.ofString " ") (k - (x.length : Int)) ++ x ++ Str.ofString " " ++ y)) t) { s with heap := h', toks := tk' }) :
    wpAny (model PySem.Challenge.rw_ik0034_01.row.prog w) (ktrTop dp un gd cn cs L a ccd cl outer) (call (.ref 114) [.str x t, .str y u, .int k v]) Q E s := by
  refine wpAny_call ?_
  k_dflt ktr_enter
  k_steps
  · rename k = 0 => h0
    rw [if_pos h0] at hret
    exact hret _ _ _ (by assumption) (by assumption)
  · rename k ≠ 0 => h0
    rw [if_neg h0] at hret
    exact hret _ _ _ (by assumption) (by assumption)
theorem signs_spec {x : Str} {t : Tok}
    (hdp : dp + 1 < recursionLimit) (hu : un + 8 < cLine) (hx : x.length ≤ 1000)
    (hret : ∀ t h' tk', Fr h₀ L h' m → News h₀ L h' news → Q (.int ((x.cps.toList.map sgn).sum) t) { s with heap := h', toks := tk' }) :
    wpAny (model PySem.Challenge.rw_ik0034_01.row.prog w) (ktrTop dp un gd cn cs L a ccd cl outer) (call (.ref 119) [.str x t]) Q E s := by
  refine wpAny_call ?_
  k_dflt ktr_enter
  k_steps
  rename CarriedAll _ _ => hc
  have hi := sgn_carried hc
  k_steps
  exact hret _ _ _ (by assumption) (by assumption)
end
end TextC1
end Mine
namespace Mine
section TextBE1
set_option maxRecDepth 100000
set_option maxHeartbeats 1000000
theorem fill3 (w : World) (h : Heap) : (hd.heap_39 w.params).In h → PySem.Challenge.rw_ik0034_01 = PySem.Challenge.rw_ik0034_01 := by
  k_fill
  intro _; rfl

noncomputable def okc (c : Nat) : Bool := c == 97 || c == 61 || c == 32 || c == 9 || c == 233 || c == 10 || c == 45 || (48 ≤ c && c ≤ 57)
noncomputable def tr (c : Nat) : List Nat := if c = 61 then [61, 51, 68] else if c = 233 then [61, 69, 57] else [c]
theorem tr_len (c : Nat) : (tr c).length ≤ 3 := by unfold tr; split <;> (try split) <;> simp
theorem trs_len (l : List Nat) : (l.flatMap tr).length ≤ 3 * l.length := by
  induction l with
  | nil => simp
  | cons c l ih => rw [List.flatMap_cons, List.length_append, List.length_cons]; have := tr_len c; omega
theorem tr_ge (c : Nat) : 1 ≤ (tr c).length := by unfold tr; split <;> (try split) <;> simp
theorem trs_ge (l : List Nat) : l.length ≤ (l.flatMap tr).length := by
  induction l with
  | nil => simp
  | cons c l ih => rw [List.flatMap_cons, List.length_append, List.length_cons]; have := tr_ge c; omega
theorem okc_lt {c : Nat} (h : okc c = true) : c < 256 := by
  unfold okc at h
  simp only [Bool.or_eq_true, Bool.and_eq_true, beq_iff_eq, decide_eq_true_eq] at h
  omega
theorem tab_ok (items : Array Value) (h : ((List.range 256).all fun c => !okc c || (match items[c]? with | some (.str y _) => y.cps.toList == tr c | _ => false)) = true) {c : Nat} (hc : okc c = true) : ∃ u, items[c]? = some (.str ⟨(tr c).toArray⟩ u) ∧ c < 2 ^ 63 := by
  have hlt := okc_lt hc
  have := List.all_eq_true.mp h c (List.mem_range.mpr hlt)
  rw [hc] at this
  simp only [Bool.not_true, Bool.false_or] at this
  split at this
  · rename_i y u e
    refine ⟨u, ?_, by omega⟩
    rw [e]
    have e2 := beq_iff_eq.mp this
    rw [← e2]
  · cases this
section
variable {w : World} {A : Around} {E : Value → Shared → Prop} {s : Shared}
theorem translate_here {h₀ : Heap} {L : Addr} {m : Str → Option Value} {x : Str} {t : Tok} {Q : Value → Shared → Prop} (F : Fr h₀ L s.heap m) (X : (hd.heap_39 w.params).In h₀)
    (hne : (x.length : Int) ≠ 0) (hok : ∀ c ∈ x.cps.toList, okc c = true) (hx : x.length ≤ 150) (h : ∀ z t tk, z = ⟨(x.cps.toList.flatMap tr).toArray⟩ → z.length ≤ 450 → 1 ≤ z.length → Q (.str z t) { s with toks := tk }) :
    wpAny (model PySem.Challenge.rw_ik0034_01.row.prog w) A (call (.builtin "str.translate") [.str x t, .ref 46]) Q E s := by
  have hs := trs_len x.cps.toList
  have hs2 : x.cps.toList.length = x.cps.size := Array.length_toList
  have hx' : x.cps.size ≤ 150 := hx
  refine' translateK tr (lstK (X.keeps F.keep) ?hl) (by omega) ?hk (Nat.le_trans (by omega : _ ≤ 450) (by rw [sizeLine_eq]; decide)) fun t tk => h _ t tk rfl ?hz ?hz1
  case hl => k_dflt k_is
  case hk => exact fun c hc => tab_ok _ (by decide +kernel) (hok c hc)
  case hz =>
    show (_ : Array Nat).size ≤ 450
    rw [List.size_toArray]; omega
  case hz1 =>
    show 1 ≤ (_ : Array Nat).size
    rw [List.size_toArray]
    have := trs_ge x.cps.toList
    have h9 : (x.length : Int) = x.cps.size := rfl
    omega
end
noncomputable def LineOk (k : Int) (y : Str) : Prop := (y.length : Int) = 0 ∨ ((y.length : Int) ≠ 0 ∧ (Builtin.Str.occurrences (Str.ofString " \t") (Txt.item y (-1)) 0 (Str.ofString " \t").length 1).isEmpty = true ∧ (y.length : Int) ≤ k) ∨ ((y.length : Int) ≠ 0 ∧ (Builtin.Str.occurrences (Str.ofString " \t") (Txt.item y (-1)) 0 (Str.ofString " \t").length 1).isEmpty = false ∧ (y.length : Int) + 1 ≤ k) ∨ ((y.length : Int) = k + 1 ∧ (Builtin.Str.occurrences (Str.ofString " \t") (Txt.item y (-1)) 0 (Str.ofString " \t").length 1).isEmpty = true)
noncomputable def segsT (k : Int) (e : Str) (y : Str) : List Str :=
  if (y.length : Int) = 0 then [Txt.slice y (some 0) none]
  else if (y.length : Int) ≤ k then
    if (Builtin.Str.occurrences (Str.ofString " \t") (Txt.item y (-1)) 0 (Str.ofString " \t").length 1).isEmpty = true then [Txt.slice y (some 0) none]
    else if 3 ≤ 0 - ((y.length : Int) - 1 - k) then [Txt.slice y (some 0) (some (-1)) ++ quoteT (Txt.item y (-1))]
    else [Txt.slice y (some 0) (some (-1)) ++ (Txt.item y (-1) ++ (Str.ofString "=" ++ e))]
  else if (Txt.item y (k - 3) == Str.ofString "=") = true then [Txt.slice y (some 0) (some (k - 2)), Txt.slice y (some (k - 3)) none]
  else if (Txt.item y (k - 2) == Str.ofString "=") = true then [Txt.slice y (some 0) (some (k - 1)), Txt.slice y (some (k - 2)) none]
  else [Txt.slice y (some 0) (some (k - 1)) ++ Str.ofString "=", Txt.slice y (some (k - 1)) none]
theorem blank_item {y : Str} (h : (Builtin.Str.occurrences (Str.ofString " \t") (Txt.item y (-1)) 0 (Str.ofString " \t").length 1).isEmpty = false) : Txt.item y (-1) = ⟨#[32]⟩ ∨ Txt.item y (-1) = ⟨#[9]⟩ := by
  have e := StrLaws.found_one (Str.ofString " \t") ((Txt.charAt y (-1)).getD 0)
  have h' : (!(Builtin.Str.occurrences (Str.ofString " \t") (⟨#[(Txt.charAt y (-1)).getD 0]⟩ : Str) 0 (Str.ofString " \t").length 1).isEmpty) = true := by
    show (!(Builtin.Str.occurrences (Str.ofString " \t") (Txt.item y (-1)) 0 (Str.ofString " \t").length 1).isEmpty) = true
    rw [h]; rfl
  rw [e] at h'
  have h2 := of_decide_eq_true h'
  rw [show (Str.ofString " \t").cps.toList = [32, 9] from by decide +kernel] at h2
  unfold Txt.item
  simp only [List.mem_cons, List.not_mem_nil, or_false] at h2
  rcases h2 with h2 | h2
  · left; rw [h2]
  · right; rw [h2]
theorem segs_len (k : Int) (e y : Str) : (segsT k e y).length ≤ 2 := by
  unfold segsT
  repeat' split
  all_goals simp
theorem flat_len {α β : Type} {f : α → List β} (h : ∀ a, (f a).length ≤ 2) : ∀ l : List α, (l.flatMap f).length ≤ 2 * l.length
  | [] => by simp
  | a :: l => by rw [List.flatMap_cons, List.length_append, List.length_cons]; have := h a; have := flat_len h l; omega
theorem lines_len (z : Str) : (Txt.lines z).length ≤ z.length + 1 := by
  have := StrLaws.lines_weight z
  omega
structure Kp (p : Prop) : Prop where
  out : p
theorem room_of {ls c : List (Str × Tok)} {z y1 e : Str} {k : Int} {pre post : List Str} (h1 : ls.map (·.1) = Txt.lines z) (h2 : z.length ≤ 450) (h3 : ls.map (·.1) = pre ++ y1 :: post) (h4 : c.map (·.1) = pre.flatMap (segsT k e)) : (strValues c).toArray.size ≤ 910 := by
  have a := lines_len z
  rw [← h1, h3, List.length_append, List.length_cons] at a
  have b := flat_len (segs_len k e) pre
  rw [← h4, List.length_map] at b
  rw [List.size_toArray]; unfold strValues; rw [List.length_map]; omega
theorem room_done {ls c : List (Str × Tok)} {z e : Str} {k : Int} (h1 : ls.map (·.1) = Txt.lines z) (h2 : z.length ≤ 450) (h4 : c.map (·.1) = (ls.map (·.1)).flatMap (segsT k e)) : c.length ≤ 910 := by
  have a := lines_len z
  rw [← h1] at a
  have b := flat_len (segs_len k e) (ls.map (·.1))
  rw [← h4, List.length_map] at b
  omega
theorem item_len (y : Str) (i : Int) : (Txt.item y i).length = 1 := rfl
theorem app_len (a b : Str) : (a ++ b).length = a.length + b.length := Array.size_append ..
theorem quoteT_len (y : Str) : (quoteT y).length = 3 := by
  unfold quoteT
  split <;> decide +kernel
theorem segs_each (k : Int) {e y : Str} (he : e.length ≤ 2) : ∀ s ∈ segsT k e y, s.length ≤ y.length + 5 := by
  have e1 : (Str.ofString "=").length = 1 := by decide +kernel
  have sl := fun a b => Txt.slice_le y a b
  intro s hs
  unfold segsT at hs
  repeat' split at hs
  all_goals simp only [List.mem_cons, List.not_mem_nil, or_false] at hs
  all_goals first
    | (rw [hs]; (try simp only [app_len, item_len, quoteT_len, e1]); have := sl (some 0) none; have := sl (some 0) (some (-1)); have := sl (some 0) (some (k-1)); omega)
    | (rcases hs with hs | hs
       all_goals (rw [hs]; (try simp only [app_len, item_len, quoteT_len, e1]); have := sl (some 0) (some (k-1)); have := sl (some 0) (some (k-2)); have := sl (some (k-3)) none; have := sl (some (k-2)) none; have := sl (some (k-1)) none; omega))
theorem sum_le_mul {l : List Nat} {b : Nat} (h : ∀ x ∈ l, x ≤ b) : l.sum ≤ l.length * b := by
  induction l with
  | nil => simp
  | cons a l ih =>
    rw [List.sum_cons, List.length_cons, Nat.succ_mul]
    have := h a List.mem_cons_self
    have := ih fun x hx => h x (List.mem_cons_of_mem _ hx)
    omega
theorem weight_done {ls c : List (Str × Tok)} {z e : Str} {k : Int} (h1 : ls.map (·.1) = Txt.lines z) (h2 : z.length ≤ 450) (he : e.length ≤ 2) (h4 : c.map (·.1) = (ls.map (·.1)).flatMap (segsT k e)) : ((c.map (·.1)).map (·.length)).sum + (c.length + 1) * e.length ≤ 16777216 := by
  have a := room_done h1 h2 h4
  have b : ((c.map (·.1)).map (·.length)).sum ≤ ((c.map (·.1)).map (·.length)).length * 455 := by
    refine sum_le_mul fun x hx => ?_
    obtain ⟨s, hs, rfl⟩ := List.mem_map.mp hx
    rw [h4, List.mem_flatMap] at hs
    obtain ⟨y, hy, hs⟩ := hs
    have := segs_each k he s hs
    have := line_short (x := z) (a := y) (by rw [← h1]; exact hy)
    omega
  rw [List.length_map, List.length_map] at b
  have d : (c.length + 1) * e.length ≤ 911 * 2 := Nat.mul_le_mul (by omega) he
  have d2 : c.length * 455 ≤ 910 * 455 := Nat.mul_le_mul_right _ a
  omega
noncomputable def encT (k : Int) (e x : Str) : Str :=
  if x.length = 0 then x
  else Txt.join e ((Txt.lines ⟨(x.cps.toList.flatMap tr).toArray⟩).flatMap (segsT k e) ++
    if (Builtin.Str.occurrences (Str.ofString "\x0d\n") (Txt.item ⟨(x.cps.toList.flatMap tr).toArray⟩ (-1)) 0 (Str.ofString "\x0d\n").length 1).isEmpty = true then [] else [Str.ofString ""])
section
variable {w : World} {mean : ExcName → Option Value} {mg mb : Str → Option Value} {dp un : Nat} {gd : Option (List Code)} {cn : Str} {cs : Scope} {a : Addr} {ccd : Value} {cl : List (Str × Addr)} {outer : List Env} {A₀ : Around} {base h₀ : Heap} {L : Addr} {m : Str → Option Value} {news : List (Addr × Obj)} {s : Shared}
    {Q E : Value → Shared → Prop}
    (B : Below A₀ base outer h₀) (F : Fr h₀ L s.heap m) (X : (hd.heap_39 w.params).In h₀) (N : News h₀ L s.heap news) (T : Top hd.view_39 Lo mean mg mb h₀) (hk : cs.kind = .function)
include B F X N T hk
theorem words_2 : True := by
  k_with_none
  (k_with "ne" => (first | k_extra "ne0" | k_extra "ne1"))
  (k_with "ne0" => (with_reducible first | assumption | exact Nat.succ_ne_self _ | exact (Nat.succ_ne_self _).symm | exact ne_off2 | exact ne_off2.symm | exact ne_off3 | exact ne_off3.symm | exact ne_off4 | exact ne_off4.symm | exact ne_off5 | exact ne_off5.symm))
  (k_with "ne1" => (((with_reducible rename _ ∧ _ => h9); first | (with_reducible first | exact h9.1.symm | exact Nat.ne_of_gt h9.1 | exact h9.1 | exact Nat.ne_of_lt h9.1 | exact h9.2.1.symm | exact Nat.ne_of_gt h9.2.1 | exact h9.2.1 | exact Nat.ne_of_lt h9.2.1 | exact h9.2.2.1.symm | exact Nat.ne_of_gt h9.2.2.1 | exact h9.2.2.1 | exact Nat.ne_of_lt h9.2.2.1 | exact h9.2.2.2.1.symm | exact Nat.ne_of_gt h9.2.2.2.1 | exact h9.2.2.2.1 | exact Nat.ne_of_lt h9.2.2.2.1 | exact h9.2.2.2.2.1.symm | exact Nat.ne_of_gt h9.2.2.2.2.1 | exact h9.2.2.2.2.1 | exact Nat.ne_of_lt h9.2.2.2.2.1 | exact h9.2.2.2.2.2.1.symm | exact Nat.ne_of_gt h9.2.2.2.2.2.1 | exact h9.2.2.2.2.2.1 | exact Nat.ne_of_lt h9.2.2.2.2.2.1 | exact h9.2.2.2.2.2.2.1.symm | exact Nat.ne_of_gt h9.2.2.2.2.2.2.1 | exact h9.2.2.2.2.2.2.1 | exact Nat.ne_of_lt h9.2.2.2.2.2.2.1 | exact h9.2.2.2.2.2.2.2.1.symm | exact Nat.ne_of_gt h9.2.2.2.2.2.2.2.1 | exact h9.2.2.2.2.2.2.2.1 | exact Nat.ne_of_lt h9.2.2.2.2.2.2.2.1 | exact h9.2.2.2.2.2.2.2.2.1.symm | exact Nat.ne_of_gt h9.2.2.2.2.2.2.2.2.1 | exact h9.2.2.2.2.2.2.2.2.1 | exact Nat.ne_of_lt h9.2.2.2.2.2.2.2.2.1 | exact h9.2.2.2.2.2.2.2.2.2.1.symm | exact Nat.ne_of_gt h9.2.2.2.2.2.2.2.2.2.1 | exact h9.2.2.2.2.2.2.2.2.2.1 | exact Nat.ne_of_lt h9.2.2.2.2.2.2.2.2.2.1 | exact h9.2.2.2.2.2.2.2.2.2.2.1.symm | exact Nat.ne_of_gt h9.2.2.2.2.2.2.2.2.2.2.1 | exact h9.2.2.2.2.2.2.2.2.2.2.1 | exact Nat.ne_of_lt h9.2.2.2.2.2.2.2.2.2.2.1 | exact h9.2.2.2.2.2.2.2.2.2.2.2.1.symm | exact Nat.ne_of_gt h9.2.2.2.2.2.2.2.2.2.2.2.1 | exact h9.2.2.2.2.2.2.2.2.2.2.2.1 | exact Nat.ne_of_lt h9.2.2.2.2.2.2.2.2.2.2.2.1 | exact h9.2.2.2.2.2.2.2.2.2.2.2.2.1.symm | exact Nat.ne_of_gt h9.2.2.2.2.2.2.2.2.2.2.2.2.1 | exact h9.2.2.2.2.2.2.2.2.2.2.2.2.1 | exact Nat.ne_of_lt h9.2.2.2.2.2.2.2.2.2.2.2.2.1 | exact h9.2.2.2.2.2.2.2.2.2.2.2.2.2.1.symm | exact Nat.ne_of_gt h9.2.2.2.2.2.2.2.2.2.2.2.2.2.1 | exact h9.2.2.2.2.2.2.2.2.2.2.2.2.2.1 | exact Nat.ne_of_lt h9.2.2.2.2.2.2.2.2.2.2.2.2.2.1 | exact h9.2.2.2.2.2.2.2.2.2.2.2.2.2.2.1.symm | exact Nat.ne_of_gt h9.2.2.2.2.2.2.2.2.2.2.2.2.2.2.1 | exact h9.2.2.2.2.2.2.2.2.2.2.2.2.2.2.1 | exact Nat.ne_of_lt h9.2.2.2.2.2.2.2.2.2.2.2.2.2.2.1 | exact h9.2.2.2.2.2.2.2.2.2.2.2.2.2.2.2.1.symm | exact Nat.ne_of_gt h9.2.2.2.2.2.2.2.2.2.2.2.2.2.2.2.1 | exact h9.2.2.2.2.2.2.2.2.2.2.2.2.2.2.2.1 | exact Nat.ne_of_lt h9.2.2.2.2.2.2.2.2.2.2.2.2.2.2.2.1) | (clear h9; k_extra "ne1"))))
  (k_with "my_enter" => ((refine' code_def ?k1 ?k2 ?k3 ?k4 ?k5 ?kA ?kF ?kK ?k6 ?k7 ?k8 ?k9 ?kB ?_ ?c2 ?c3 ?c4 ?c5; (case kA => exact rfl); (case kF => exact rfl); (case kK => assumption); (case k1 => k_asm); (case k2 => k_asm); (case k3 => k_asm); (case k4 => k_asm); (case k5 => k_asm); (case k6 => k_is); (case k7 => k_is); (case k8 => ktr_room); (case k9 => first | exact BindsTo.of_eq rfl | exact binds_K (by k_in) rfl (by k_is) rfl rfl rfl); (case c5 => decide); (case kB => exact locs rfl); (case c2 => exact rfl); (case c3 => exact rfl); (case c4 => exact rfl); k_whole; intro g' L' h' FG' F' N' B' X' T'; (try dsimp only); (try k_lift B'); (try k_fold))))
  (k_with "my_enterC" => ((refine' code_defC ?k1 ?k2 ?k3 ?k4 ?k5 ?kA ?kF ?kK ?k6 ?k7 ?k8 ?k9 ?kB ?kD ?_ ?c2 ?c3 ?c4; (case kA => exact rfl); (case kF => exact rfl); (case kK => assumption); (case k1 => k_asm); (case k2 => k_asm); (case k3 => k_asm); (case k4 => k_asm); (case k5 => k_asm); (case k6 => k_is); (case k7 => k_is); (case k8 => ktr_room); (case k9 => first | exact BindsTo.of_eq rfl | exact binds_K (by k_in) rfl (by k_is) rfl rfl rfl | fail "k_enter: no rule for these arguments"); (case kB => exact rfl); (case kD => decide +kernel); (case c2 => exact rfl); (case c3 => exact rfl); (case c4 => exact rfl); k_whole; intro g' L' h' tk' cells' FG' F' N' Y' B' X' T' l1; (try k_lt l1); k_cells Y'; (try simp only [List.cons_append, List.nil_append] at N'); (try dsimp only); (try k_lift B'); (try k_fold))))
  (k_with "my getMethod str" => (with_reducible refine gm_translate ?_))
  (k_with "my call builtin:str.translate" => ((k_here; refine translate_here (by k_asm) (by k_asm) (by assumption) (by assumption) (by assumption) ?_; intro z7 t7 tk7 hz7 hl7 hg7; (try dsimp only))))
  (k_with "my getAttr ref" => ((k_here; (with_reducible show wpAny _ _ (getAttr (Value.ref _) (PySem.Str.ofString "append") true) _ _ _); k_dflt (refine' getAttr_app ?k1 ?k2 ?k3 ?_; (case k1 => k_asm); (case k2 => k_asm); (case k3 => k_mem); k_whole; intro b' h' tk' F' N' l1; (try k_lt l1); (try dsimp only)))))
  (k_with "my callWith ref" => ((k_here; k_dflt (refine' callWith_bound ?k1 ?k2 ?_; (case k1 => k_asm); (case k2 => k_mem); k_whole))))
  (k_with "my And" => (((with_reducible show BoundAt _ _ _ ∧ _); k_dflt (refine ⟨bound_at (by k_asm) (by k_mem), ?_⟩); (try dsimp only [List.nil_append, List.cons_append]))))
  (k_with "my call ref" => ((k_here; k_dflt (refine' bound_K ?k1 ?k2 ?k3 ?k4 ?_ ?z; (case k1 => k_asm); (case k2 => k_asm); (case k3 => k_mem); (case k4 => k_upd); (case z => size_fits); k_whole; intro h' F' N'; (try k_sweep)))))
  trivial

/-- the last sign is no blank and no tab -/
noncomputable abbrev NoBlank (y : Str) : Prop := (Builtin.Str.occurrences (Str.ofString " \t") (Txt.item y (-1)) 0 (Str.ofString " \t").length 1).isEmpty = true
noncomputable abbrev Blank (y : Str) : Prop := (Builtin.Str.occurrences (Str.ofString " \t") (Txt.item y (-1)) 0 (Str.ofString " \t").length 1).isEmpty = false
theorem words_3 : True := by
  (k_with "my exec While Compare" => ((k_here; k_dflt (refine whl_start 100 ?_))))
  trivial
theorem WhlIf.both {b : Bool} {T F : Prop} (t : b = true → T) (f : b = false → F) : WhlIf b T F := by
  cases b
  · exact WhlIf.no rfl (f rfl)
  · exact WhlIf.yes rfl (t rfl)
theorem words_4 : True := by
  (k_with "my WhlIf" => ((first | (refine WhlIf.yes (decide_eq_true (by omega)) ?_) | (refine WhlIf.no (decide_eq_false (by omega)) ?_))))
  trivial
local macro_rules | `(tactic| k_all) => `(tactic| assumption)
local macro_rules | `(tactic| k_mem) => `(tactic| assumption)
theorem words_5 : True := by
  (k_with "my call ref" => ((k_here; (with_reducible show wpAny _ _ (call (Value.ref 44) [Value.str _ _]) _ _ _); (k_dflt (refine' quote_spec ?k1 ?k2 ?k3 ?k4 ?k5 ?kK ?kx ?kd ?ku ?_; (case k1 => k_asm); (case k2 => k_asm); (case k3 => k_asm); (case k4 => k_asm); (case k5 => k_asm); (case kK => first | exact rfl | assumption); (case kx => with_reducible assumption); (case kd => ktr_room); (case ku => ktr_units))); intro t9 h9 tk9 F9 N9 hl9; (try dsimp only))))
  trivial
set_option maxHeartbeats 4000000 in
theorem words_6 : True := by
  (k_with "my call builtin:str.join" => ((k_here; (with_reducible show wpAny _ _ (call (Value.builtin "str.join") [Value.str _ _, Value.ref _]) _ _ _); rename News _ _ _ _ => NJ; (first | refine join_grown NJ List.mem_cons_self (Kp.out (by assumption)) ?_ | refine join_grown1 NJ List.mem_cons_self (Kp.out (by assumption)) ?_); intro tj kj)))
  trivial
set_option maxHeartbeats 8000000 in
theorem be_all {x y : Str} {t u v : Tok} {k : Int} {args : List Value} {kw : List (Str × Value)} (hargs : args = [.str x t, .int k u, .str y v] ∧ kw = [] ∨ args = [.str x t] ∧ kw = [(Str.ofString "maxlinelen", .int k u), (Str.ofString "eol", .str y v)])
    (hdp : dp + 2 < recursionLimit) (hu : un + 16 < cLine) (hx : x.length ≤ 150) (hok : ∀ c ∈ x.cps.toList, okc c = true) (hy : y.length ≤ 2) (hkl : 4 ≤ k ∧ k ≤ 1000)
    (hlines : ∀ y ∈ Txt.lines ⟨(x.cps.toList.flatMap tr).toArray⟩, LineOk k y)
    (hret : ∀ t h' tk', Fr h₀ L h' m → News h₀ L h' news → Q (.str (encT k y x) t) { s with heap := h', toks := tk' }) :
    wpAny (model PySem.Challenge.rw_ik0034_01.row.prog w) (ktrTop dp un gd cn cs L a ccd cl outer) (call (.ref 57) args kw) Q E s := by
  refine wpAny_call ?_
  k_dflt (refine' code_def (binds := [(Str.ofString "body", .str x t), (Str.ofString "maxlinelen", .int k u), (Str.ofString "eol", .str y v)]) ?k1 ?k2 ?k3 ?k4 ?k5 ?kA ?kF ?kK ?k6 ?k7 ?k8 ?k9 ?kB ?_ ?c2 ?c3 ?c4 ?c5; (case kA => exact rfl); (case kF => exact rfl); (case kK => assumption); (case k1 => k_asm); (case k2 => k_asm); (case k3 => k_asm); (case k4 => k_asm); (case k5 => k_asm); (case k6 => k_is); (case k7 => k_is); (case k8 => ktr_room); (case k9 => (rcases hargs with ⟨rfl, rfl⟩ | ⟨rfl, rfl⟩) <;> first | exact BindsTo.of_eq rfl | exact binds_K (by k_in) rfl (by k_is) rfl rfl rfl); (case c5 => decide); (case kB => exact locs rfl); (case c2 => exact rfl); (case c3 => exact rfl); (case c4 => exact rfl); k_whole; intro g' L' h' FG' F' N' B' X' T'; (try dsimp only); (try k_lift B'); (try k_fold))
  clear hargs
  k_steps
  · rename _ = (⟨(x.cps.toList.flatMap tr).toArray⟩ : Str) => hz7
    rename Str => z7
    rename Fr _ _ _ _ => F1
    rename News _ _ _ _ => N1
    rename List.map _ _ = Txt.lines _ => hln
    rename _ ≤ 450 => hl7
    rename News _ _ _ ((_, bmo _) :: _) => NB
    have hnn := fun p hp => Nat.ne_of_lt (‹∀ p ∈ news, p.1 < _› p hp)
    refine grow_loop [Str.ofString "start", Str.ofString "laststart", Str.ofString "stop", Str.ofString "room", Str.ofString "q"] (segsT k y) rfl F1 N1 ?hD ?hb ?hnew ?turn ?done
    case hD => exact fun e => absurd (Heap.lt_size (News.get NB (List.mem_cons_of_mem _ List.mem_cons_self))) (by rw [← e]; exact Nat.lt_irrefl _)
    case hb => (refine neN ?_; omega)
    case hnew => exact hnn
    case turn =>
      intro c pre y1 t1 post u1 h1 tk1 rest e1 hP1 hrest hbr F1' N1'
      have hy1 : LineOk k y1 := hlines y1 (by rw [← hz7, ← hln, e1]; simp)
      have hpl : y1.length ≤ 450 := by
        have h9 := line_short (x := z7) (a := y1) (by rw [← hln, e1]; simp)
        omega
      have hcl := room_of hln hl7 e1 hP1
      rcases hy1 with hA | ⟨hA0, hB, hA⟩ | ⟨hA0, hB, hA⟩ | ⟨hA, hB⟩
      · k_steps
        all_goals (try (exfalso; omega))
        all_goals (rename Fr _ _ _ _ => FZ; rename News _ _ _ _ => NZ; refine grow_end (c ++ [(_, _)]) FZ NZ strs_push (by simp) (by intro z h2 h3; simp only [List.contains_cons, List.contains_nil, Bool.or_false, Bool.or_eq_false_iff, beq_eq_false_iff_ne, ne_eq] at h3; simp [h2, h3]) ⟨[(_, _)], rfl, ?_⟩)
        all_goals (rw [segsT, if_pos hA]; rfl)
      · k_steps
        all_goals (try (exfalso; omega))
        all_goals (rename Fr _ _ _ _ => FZ; rename News _ _ _ _ => NZ; refine grow_end (c ++ [(_, _)]) FZ NZ strs_push (by simp) (by intro z h2 h3; simp only [List.contains_cons, List.contains_nil, Bool.or_false, Bool.or_eq_false_iff, beq_eq_false_iff_ne, ne_eq] at h3; simp [h2, h3]) ⟨[(_, _)], rfl, ?_⟩)
        all_goals (rw [segsT, if_neg hA0, if_pos hA, if_pos hB]; rfl)
      · have hq := blank_item hB
        k_steps
        all_goals (try (exfalso; omega))
        all_goals (rename Fr _ _ _ _ => FZ; rename News _ _ _ _ => NZ; refine grow_end (c ++ [(_, _)]) FZ NZ strs_push (by simp) (by intro z h2 h3; simp only [List.contains_cons, List.contains_nil, Bool.or_false, Bool.or_eq_false_iff, beq_eq_false_iff_ne, ne_eq] at h3; simp [h2, h3]) ⟨[(_, _)], rfl, ?_⟩)
        all_goals first | (rw [segsT, if_neg hA0, if_pos (by omega), if_neg (by rw [hB]; decide), if_pos (by omega)]; rfl) | (rw [segsT, if_neg hA0, if_pos (by omega), if_neg (by rw [hB]; decide), if_neg (by omega)]; rfl)
      · have e1 : (0 + (k - 1) - 2 : Int) = k - 3 := by omega
        have e2 : (0 + (k - 1) - 1 : Int) = k - 2 := by omega
        have e3 : (0 + (k - 1) : Int) = k - 1 := by omega
        have e4 : (k - 1 - 2 : Int) = k - 3 := by omega
        have e5 : (k - 1 - 1 : Int) = k - 2 := by omega
        k_steps
        all_goals (try (exfalso; omega))
        all_goals (rename Fr _ _ _ _ => FZ; rename News _ _ _ _ => NZ; refine grow_end (c ++ [(_, _)] ++ [(_, _)]) FZ NZ ((congrArg (Array.push · _) strs_push).trans strs_push) (by simp) (by intro z h2 h3; simp only [List.contains_cons, List.contains_nil, Bool.or_false, Bool.or_eq_false_iff, beq_eq_false_iff_ne, ne_eq] at h3; simp [h2, h3]) ⟨_, List.append_assoc .., ?_⟩)
        all_goals first
          | (rw [segsT, if_neg (by omega), if_neg (by omega), if_pos (by rw [← e1]; assumption)]; simp only [List.map_append, List.map_cons, List.map_nil, List.cons_append, List.nil_append, e3, e4, e5]; done)
          | (rw [segsT, if_neg (by omega), if_neg (by omega), if_neg (by rw [← e1]; rename _ = false => hF; rw [hF]; decide), if_pos (by rw [← e2]; assumption)]; simp only [List.map_append, List.map_cons, List.map_nil, List.cons_append, List.nil_append, e3, e4, e5]; done)
          | (rw [segsT, if_neg (by omega), if_neg (by omega), if_neg (by rw [← e1, ‹(Txt.item y1 (0 + (k - 1) - 2) == Str.ofString "=") = false›]; decide), if_neg (by rw [← e2, ‹(Txt.item y1 (0 + (k - 1) - 1) == Str.ofString "=") = false›]; decide)]; simp only [List.map_append, List.map_cons, List.map_nil, List.cons_append, List.nil_append, e3, e4, e5]; done)
    case done =>
      intro c u1 h1 tk1 hP1 F1' N1'
      have hcl := room_done hln hl7 hP1
      have hcs : (strValues c).toArray.size = c.length := by rw [List.size_toArray]; unfold strValues; rw [List.length_map]
      have hw := Kp.mk (weight_done hln hl7 hy hP1)
      (try k_fold)
      k_steps
      all_goals (rename News _ _ _ _ => NZ; have h9 := hret; unfold encT at h9; rw [if_neg (by omega), ← hz7] at h9)
      · rw [if_pos (by assumption), List.append_nil, ← hln, ← hP1] at h9
        exact h9 _ _ _ (by assumption) (cb_drop NZ fun p hp => List.mem_cons_of_mem _ (List.mem_cons_of_mem _ hp))
      · rename _ = false => hF
        rw [if_neg (by rw [hF]; decide), ← hln, ← hP1] at h9
        exact h9 _ _ _ (by assumption) (cb_drop NZ fun p hp => List.mem_cons_of_mem _ (List.mem_cons_of_mem _ hp))
  · rename (x.length : Int) = 0 => hx0
    have h9 := hret
    unfold encT at h9
    rw [if_pos (by omega)] at h9
    exact h9 _ _ _ (by assumption) (by assumption)
theorem be_spec {x y : Str} {t u v : Tok} {k : Int}
    (hdp : dp + 2 < recursionLimit) (hu : un + 16 < cLine) (hx : x.length ≤ 150) (hok : ∀ c ∈ x.cps.toList, okc c = true) (hy : y.length ≤ 2) (hkl : 4 ≤ k ∧ k ≤ 1000)
    (hlines : ∀ y ∈ Txt.lines ⟨(x.cps.toList.flatMap tr).toArray⟩, LineOk k y)
    (hret : ∀ t h' tk', Fr h₀ L h' m → News h₀ L h' news → Q (.str (encT k y x) t) { s with heap := h', toks := tk' }) :
    wpAny (model PySem.Challenge.rw_ik0034_01.row.prog w) (ktrTop dp un gd cn cs L a ccd cl outer) (call (.ref 57) [.str x t, .int k u, .str y v]) Q E s :=
  be_all B F X N T hk (.inl ⟨rfl, rfl⟩) hdp hu hx hok hy hkl hlines hret
theorem be_kw_spec {x y : Str} {t u v : Tok} {k : Int}
    (hdp : dp + 2 < recursionLimit) (hu : un + 16 < cLine) (hx : x.length ≤ 150) (hok : ∀ c ∈ x.cps.toList, okc c = true) (hy : y.length ≤ 2) (hkl : 4 ≤ k ∧ k ≤ 1000)
    (hlines : ∀ y ∈ Txt.lines ⟨(x.cps.toList.flatMap tr).toArray⟩, LineOk k y)
    (hret : ∀ t h' tk', Fr h₀ L h' m → News h₀ L h' news → Q (.str (encT k y x) t) { s with heap := h', toks := tk' }) :
    wpAny (model PySem.Challenge.rw_ik0034_01.row.prog w) (ktrTop dp un gd cn cs L a ccd cl outer) (call (.ref 57) [.str x t] [(Str.ofString "maxlinelen", .int k u), (Str.ofString "eol", .str y v)]) Q E s :=
  be_all B F X N T hk (.inr ⟨rfl, rfl⟩) hdp hu hx hok hy hkl hlines hret
end
end TextBE1
end Mine
namespace Mine
section TextD1
set_option maxRecDepth 100000
set_option maxHeartbeats 1000000
theorem fill5 (w : World) (h : Heap) : (hd.heap_39 w.params).In h → PySem.Challenge.rw_ik0034_01 = PySem.Challenge.rw_ik0034_01 := by
  k_fill
  intro _; rfl

noncomputable def HoldW (p : Prop) : Prop := p
theorem HoldW.out {p : Prop} (h : HoldW p) : p := h
theorem HoldW.mk {p : Prop} (h : p) : HoldW p := h
theorem rstrip_same {prog : Program} {w : World} {A : Around} {E : Value → Shared → Prop} {s : Shared} {Q : Value → Shared → Prop} {x : Str} {t : Tok} (h : Txt.rstrip x = x) (hsz : x.length ≤ 1000000) (hq : ∀ t' k, Q (.str x t') { s with toks := k }) :
    wpAny (model prog w) A (call (.builtin "str.rstrip") [.str x t]) Q E s :=
  SCL.rstrip (fun t' k _ => by rw [h]; exact hq t' k) (by rw [sizeLine_eq]; omega)
section
variable {w : World} {mean : ExcName → Option Value} {mg mb : Str → Option Value} {dp un : Nat} {gd : Option (List Code)} {cn : Str} {cs : Scope} {a : Addr} {ccd : Value} {cl : List (Str × Addr)} {outer : List Env} {A₀ : Around} {base h₀ : Heap} {L : Addr} {m : Str → Option Value} {news : List (Addr × Obj)} {s : Shared}
    {Q E : Value → Shared → Prop}
    (B : Below A₀ base outer h₀) (F : Fr h₀ L s.heap m) (X : (hd.heap_39 w.params).In h₀) (N : News h₀ L s.heap news) (T : Top hd.view_39 Lo mean mg mb h₀) (hk : cs.kind = .function)
include B F X N T hk
theorem words_7 : True := by
  k_with_none
  (k_with "ne" => (first | k_extra "ne0" | k_extra "ne1"))
  (k_with "ne0" => (with_reducible first | assumption | exact Nat.succ_ne_self _ | exact (Nat.succ_ne_self _).symm | exact ne_off2 | exact ne_off2.symm | exact ne_off3 | exact ne_off3.symm | exact ne_off4 | exact ne_off4.symm | exact ne_off5 | exact ne_off5.symm))
  (k_with "ne1" => (((with_reducible rename _ ∧ _ => h9); first | (with_reducible first | exact h9.1.symm | exact Nat.ne_of_gt h9.1 | exact h9.1 | exact Nat.ne_of_lt h9.1 | exact h9.2.1.symm | exact Nat.ne_of_gt h9.2.1 | exact h9.2.1 | exact Nat.ne_of_lt h9.2.1 | exact h9.2.2.1.symm | exact Nat.ne_of_gt h9.2.2.1 | exact h9.2.2.1 | exact Nat.ne_of_lt h9.2.2.1 | exact h9.2.2.2.1.symm | exact Nat.ne_of_gt h9.2.2.2.1 | exact h9.2.2.2.1 | exact Nat.ne_of_lt h9.2.2.2.1 | exact h9.2.2.2.2.1.symm | exact Nat.ne_of_gt h9.2.2.2.2.1 | exact h9.2.2.2.2.1 | exact Nat.ne_of_lt h9.2.2.2.2.1 | exact h9.2.2.2.2.2.1.symm | exact Nat.ne_of_gt h9.2.2.2.2.2.1 | exact h9.2.2.2.2.2.1 | exact Nat.ne_of_lt h9.2.2.2.2.2.1 | exact h9.2.2.2.2.2.2.1.symm | exact Nat.ne_of_gt h9.2.2.2.2.2.2.1 | exact h9.2.2.2.2.2.2.1 | exact Nat.ne_of_lt h9.2.2.2.2.2.2.1 | exact h9.2.2.2.2.2.2.2.1.symm | exact Nat.ne_of_gt h9.2.2.2.2.2.2.2.1 | exact h9.2.2.2.2.2.2.2.1 | exact Nat.ne_of_lt h9.2.2.2.2.2.2.2.1 | exact h9.2.2.2.2.2.2.2.2.1.symm | exact Nat.ne_of_gt h9.2.2.2.2.2.2.2.2.1 | exact h9.2.2.2.2.2.2.2.2.1 | exact Nat.ne_of_lt h9.2.2.2.2.2.2.2.2.1 | exact h9.2.2.2.2.2.2.2.2.2.1.symm | exact Nat.ne_of_gt h9.2.2.2.2.2.2.2.2.2.1 | exact h9.2.2.2.2.2.2.2.2.2.1 | exact Nat.ne_of_lt h9.2.2.2.2.2.2.2.2.2.1 | exact h9.2.2.2.2.2.2.2.2.2.2.1.symm | exact Nat.ne_of_gt h9.2.2.2.2.2.2.2.2.2.2.1 | exact h9.2.2.2.2.2.2.2.2.2.2.1 | exact Nat.ne_of_lt h9.2.2.2.2.2.2.2.2.2.2.1 | exact h9.2.2.2.2.2.2.2.2.2.2.2.1.symm | exact Nat.ne_of_gt h9.2.2.2.2.2.2.2.2.2.2.2.1 | exact h9.2.2.2.2.2.2.2.2.2.2.2.1 | exact Nat.ne_of_lt h9.2.2.2.2.2.2.2.2.2.2.2.1 | exact h9.2.2.2.2.2.2.2.2.2.2.2.2.1.symm | exact Nat.ne_of_gt h9.2.2.2.2.2.2.2.2.2.2.2.2.1 | exact h9.2.2.2.2.2.2.2.2.2.2.2.2.1 | exact Nat.ne_of_lt h9.2.2.2.2.2.2.2.2.2.2.2.2.1 | exact h9.2.2.2.2.2.2.2.2.2.2.2.2.2.1.symm | exact Nat.ne_of_gt h9.2.2.2.2.2.2.2.2.2.2.2.2.2.1 | exact h9.2.2.2.2.2.2.2.2.2.2.2.2.2.1 | exact Nat.ne_of_lt h9.2.2.2.2.2.2.2.2.2.2.2.2.2.1 | exact h9.2.2.2.2.2.2.2.2.2.2.2.2.2.2.1.symm | exact Nat.ne_of_gt h9.2.2.2.2.2.2.2.2.2.2.2.2.2.2.1 | exact h9.2.2.2.2.2.2.2.2.2.2.2.2.2.2.1 | exact Nat.ne_of_lt h9.2.2.2.2.2.2.2.2.2.2.2.2.2.2.1 | exact h9.2.2.2.2.2.2.2.2.2.2.2.2.2.2.2.1.symm | exact Nat.ne_of_gt h9.2.2.2.2.2.2.2.2.2.2.2.2.2.2.2.1 | exact h9.2.2.2.2.2.2.2.2.2.2.2.2.2.2.2.1 | exact Nat.ne_of_lt h9.2.2.2.2.2.2.2.2.2.2.2.2.2.2.2.1) | (clear h9; k_extra "ne1"))))
  (k_with "my_enter" => ((refine' code_def ?k1 ?k2 ?k3 ?k4 ?k5 ?kA ?kF ?kK ?k6 ?k7 ?k8 ?k9 ?kB ?_ ?c2 ?c3 ?c4 ?c5; (case kA => exact rfl); (case kF => exact rfl); (case kK => assumption); (case k1 => k_asm); (case k2 => k_asm); (case k3 => k_asm); (case k4 => k_asm); (case k5 => k_asm); (case k6 => k_is); (case k7 => k_is); (case k8 => ktr_room); (case k9 => first | exact BindsTo.of_eq rfl | exact binds_K (by k_in) rfl (by k_is) rfl rfl rfl); (case c5 => decide); (case kB => exact locs rfl); (case c2 => exact rfl); (case c3 => exact rfl); (case c4 => exact rfl); k_whole; intro g' L' h' FG' F' N' B' X' T'; (try dsimp only); (try k_lift B'); (try k_fold))))
  (k_with "my_enterC" => ((refine' code_defC ?k1 ?k2 ?k3 ?k4 ?k5 ?kA ?kF ?kK ?k6 ?k7 ?k8 ?k9 ?kB ?kD ?_ ?c2 ?c3 ?c4; (case kA => exact rfl); (case kF => exact rfl); (case kK => assumption); (case k1 => k_asm); (case k2 => k_asm); (case k3 => k_asm); (case k4 => k_asm); (case k5 => k_asm); (case k6 => k_is); (case k7 => k_is); (case k8 => ktr_room); (case k9 => first | exact BindsTo.of_eq rfl | exact binds_K (by k_in) rfl (by k_is) rfl rfl rfl | fail "k_enter: no rule for these arguments"); (case kB => exact rfl); (case kD => decide +kernel); (case c2 => exact rfl); (case c3 => exact rfl); (case c4 => exact rfl); k_whole; intro g' L' h' tk' cells' FG' F' N' Y' B' X' T' l1; (try k_lt l1); k_cells Y'; (try simp only [List.cons_append, List.nil_append] at N'); (try dsimp only); (try k_lift B'); (try k_fold))))
  (k_with "my exec While Compare" => ((k_here; refine HoldW.out ?_)))
  (k_with "my ite" => ((k_here; first | refine ite_pos (by with_reducible assumption) ?_ | refine ite_neg (by with_reducible assumption) ?_ | refine ite_isFalse (by with_reducible assumption) ?_ | refine ite_pos (beq_iff_eq.mpr (by omega)) ?_ | refine ite_neg (fun e => absurd (beq_iff_eq.mp e) (by omega)) ?_)))
  (k_with "my call ref" => ((k_here; (with_reducible show wpAny _ _ (call (Value.ref 37) [Value.str _ _]) _ _ _); (k_dflt (refine' unquote_spec ?k1 ?k2 ?k3 ?k4 ?k5 ?kK ?kx ?kd ?ku ?_; (case k1 => k_asm); (case k2 => k_asm); (case k3 => k_asm); (case k4 => k_asm); (case k5 => k_asm); (case kK => first | exact rfl | assumption); (case kx => with_reducible assumption); (case kd => ktr_room); (case ku => ktr_units))); intro t9 h9 tk9 F9 N9; (try dsimp only))))
  (k_with "my call builtin:str.rstrip" => ((k_here; refine rstrip_same (by with_reducible assumption) (by omega) ?_; intro tr kr)))
  trivial
set_option maxHeartbeats 2000000 in
theorem decode_spec {x : Str} {t : Tok} {toks : Str → List (Nat × Bool) × Bool}
    (hdp : dp + 2 < recursionLimit) (hu : un + 16 < cLine) (hx : x.length ≤ 600) (hlines : ∀ y ∈ Txt.lines x, LineTk y (toks y).1 (toks y).2 ∧ Txt.rstrip y = y)
    (hret : ∀ t h' tk', Fr h₀ L h' m → News h₀ L h' news → Q (.str (decT x ((Txt.lines x).flatMap fun y => decOf (toks y).1 (toks y).2)) t) { s with heap := h', toks := tk' }) :
    wpAny (model PySem.Challenge.rw_ik0034_01.row.prog w) (ktrTop dp un gd cn cs L a ccd cl outer) (call (.ref 65) [.str x t]) Q E s := by
  refine wpAny_call ?_
  k_dflt (k_extra "my_enter")
  k_steps
  · rename Fr _ _ _ _ => F1
    rename News _ _ _ _ => N1
    rename List.map _ _ = Txt.lines _ => hln
    rename List (Str × Tok) => ls
    refine' sl_iter (σ := Str × Tok) (ls := ls) (nn := 0) (fun _ => []) (_ :: news) (fun c => [(Str.ofString "decoded", .str c.1 c.2)]) [Str.ofString "i", Str.ofString "n", Str.ofString "c"] (fun pre c => c.1.cps.toList = pre.flatMap fun y => decOf (toks y).1 (toks y).2) (?cx, ?ct) rfl List.mem_cons_self F1 N1 (fun p hp => hp) ?hk ?hp ?turn ?done
    case hk => intro p hp; cases hp with | head => exact rfl | tail _ h => cases h
    case hp => show (Str.ofString "").cps.toList = []; decide +kernel
    case turn =>
      intro c pre y1 t1 post u1 h1 tk1 own e1 off1 hP1 F1' N1'
      dsimp only [kstB] at F1'
      obtain ⟨hT1, hR1⟩ := hlines y1 (by rw [← hln, e1]; simp)
      have hpl : y1.length ≤ 600 := Nat.le_trans (line_short (by rw [← hln, e1]; simp)) hx
      have hdl := dec_room hx hlines (by rw [← hln, e1]) hP1
      k_steps
      · refine HoldW.mk ?_
        rename Fr _ _ _ _ => FW
        rename News _ _ _ _ => NW
        refine' ksw_while (σ := (Int × Tok) × (Str × Tok)) (fun _ => _) (fun c => [(Str.ofString "i", .int c.1.1 c.1.2), (Str.ofString "decoded", .str c.2.1 c.2.2)]) (fun _ => True) [Str.ofString "c"] (fun p => WOk (toks y1).1 (toks y1).2 y1 c.1.cps.toList p.1.1 p.2.1) (fun p => ((y1.length : Int) - p.1.1).toNat) ((0, ?t1), (c.1, ?t2)) FW NW trivial ?hk2 ?hp2 ?turn2 ?hE
        case hk2 =>
          intro p hp
          rcases List.mem_cons.mp hp with rfl | hp
          · exact rfl
          · rw [List.mem_singleton.mp hp]; exact rfl
        case hp2 => exact w_start hT1 (by assumption)
        case hE => first | passes_own | with_unfolding_all passes_own
        case turn2 =>
          intro p u2 h2 tk2 _ hP FT NT
          dsimp only [kstB] at FT
          dsimp only at hP NT
          have hdl2 := w_len hT1 hP
          rw [Array.length_toList] at hdl2
          have hdl3 : p.2.1.length ≤ 1002000 := by have : c.1.cps.size = c.1.length := rfl; omega
          clear hdl2
          rcases hP with ⟨a, b, g1, g2, g3, g4⟩ | ⟨g1, g2⟩
          · obtain ⟨hlt, hge, V⟩ := w_view hT1 g1 g2 g4
            cases V with
            | soft v1 v2 v3 =>
              k_steps
              rename Fr _ _ _ _ => FZ
              rename News _ _ _ _ => NZ
              refine' ksw_end ((_, _), (_, _)) FZ NZ (fun p hp => hp) trivial ?hk9x1 ?hr9x1 ?hp9x1 ?hm9x1
              case hk9x1 =>
                intro p hp
                rcases List.mem_cons.mp hp with rfl | hp
                · exact rfl
                · rw [List.mem_singleton.mp hp]; exact rfl
              case hr9x1 => ksw_same
              case hp9x1 => exact w_soft g1 g3 v1 v3
              case hm9x1 => dsimp only; omega
            | raw v1 v2 v3 =>
              rcases v3 with ⟨v3, v4, v5⟩ | ⟨v4, v5⟩
              · k_steps
                rename Fr _ _ _ _ => FZ
                rename News _ _ _ _ => NZ
                refine' ksw_end ((_, _), (_, _)) FZ NZ (fun p hp => hp) trivial ?hk9x2 ?hr9x2 ?hp9x2 ?hm9x2
                case hk9x2 =>
                  intro p hp
                  rcases List.mem_cons.mp hp with rfl | hp
                  · exact rfl
                  · rw [List.mem_singleton.mp hp]; exact rfl
                case hr9x2 => ksw_same
                case hp9x2 => (subst v3; rw [v1]; exact w_fin g1 rfl g3 v4 v5)
                case hm9x2 => dsimp only; omega
              · k_steps
                rename Fr _ _ _ _ => FZ
                rename News _ _ _ _ => NZ
                refine' ksw_end ((_, _), (_, _)) FZ NZ (fun p hp => hp) trivial ?hk9x3 ?hr9x3 ?hp9x3 ?hm9x3
                case hk9x3 =>
                  intro p hp
                  rcases List.mem_cons.mp hp with rfl | hp
                  · exact rfl
                  · rw [List.mem_singleton.mp hp]; exact rfl
                case hr9x3 => ksw_same
                case hp9x3 => (rw [v1]; exact w_cont g1 rfl g2 g3 v4 rfl)
                case hm9x3 => dsimp only; omega
            | quoted v1 v2 v3 v4 v5 v6 =>
              have v7 := uq_of v2 v3
              have v10 := hexd_in v4 (hex_digits v2).1
              have v11 := hexd_in v5 (hex_digits v2).2
              rcases v6 with ⟨v6, v8, v9⟩ | ⟨v6, v9⟩
              · k_steps
                rename Fr _ _ _ _ => FZ
                rename News _ _ _ _ => NZ
                refine' ksw_end ((_, _), (_, _)) FZ NZ (fun p hp => hp) trivial ?hk9x4 ?hr9x4 ?hp9x4 ?hm9x4
                case hk9x4 =>
                  intro p hp
                  rcases List.mem_cons.mp hp with rfl | hp
                  · exact rfl
                  · rw [List.mem_singleton.mp hp]; exact rfl
                case hr9x4 => ksw_same
                case hp9x4 => (subst v6; exact w_fin g1 rfl g3 v8 v9)
                case hm9x4 => dsimp only; omega
              · k_steps
                rename Fr _ _ _ _ => FZ
                rename News _ _ _ _ => NZ
                refine' ksw_end ((_, _), (_, _)) FZ NZ (fun p hp => hp) trivial ?hk9x5 ?hr9x5 ?hp9x5 ?hm9x5
                case hk9x5 =>
                  intro p hp
                  rcases List.mem_cons.mp hp with rfl | hp
                  · exact rfl
                  · rw [List.mem_singleton.mp hp]; exact rfl
                case hr9x5 => ksw_same
                case hp9x5 => exact w_cont g1 rfl g2 g3 v6 (by rw [hexq_len])
                case hm9x5 => dsimp only; omega
          · k_steps
            rename Fr _ _ _ _ => FZ
            rename News _ _ _ _ => NZ
            refine' sl_end c (_, _) rfl off1 FZ NZ (fun p hp => List.mem_append.mpr (.inr (List.mem_append.mpr (.inl hp)))) (fun p hp => List.mem_append.mpr (.inr (List.mem_append.mpr (.inr hp)))) ?hk9x6 ?hr9x6 ?hp9x6
            case hk9x6 => intro p hp; cases hp with | head => exact rfl | tail _ h => cases h
            case hr9x6 => (intro z h1 h2 h3; simp only [List.forall_mem_cons, List.not_mem_nil, false_implies, implies_true, and_true, ne_eq] at h2; simp only [List.contains_cons, List.contains_nil, Bool.or_false, Bool.or_eq_false_iff, beq_eq_false_iff_ne, ne_eq] at h3; simp [h1, h2, h3])
            case hp9x6 => show _ = List.flatMap _ (pre ++ [y1]); rw [List.flatMap_append, ← hP1, g2]; simp
      · rename Fr _ _ _ _ => FZ
        rename News _ _ _ _ => NZ
        refine' sl_end c (_, _) rfl off1 FZ NZ (fun p hp => List.mem_append.mpr (.inr (List.mem_append.mpr (.inl hp)))) (fun p hp => List.mem_append.mpr (.inr (List.mem_append.mpr (.inr hp)))) ?hk9x7 ?hr9x7 ?hp9x7
        case hk9x7 => intro p hp; cases hp with | head => exact rfl | tail _ h => cases h
        case hr9x7 => (intro z h1 h2 h3; simp only [List.forall_mem_cons, List.not_mem_nil, false_implies, implies_true, and_true, ne_eq] at h2; simp only [List.contains_cons, List.contains_nil, Bool.or_false, Bool.or_eq_false_iff, beq_eq_false_iff_ne, ne_eq] at h3; simp [h1, h2, h3])
        case hp9x7 =>
          show _ = List.flatMap _ (pre ++ [y1])
          rw [List.flatMap_append, ← hP1, app_cps, List.flatMap_cons, List.flatMap_nil, List.append_nil, w_empty hT1 (by assumption)]
          congr 1
    case done =>
      intro c u1 h1 tk1 hP1 F1' N1'
      dsimp only [kstB] at F1'
      have hdl := dec_room (post := []) hx hlines (by rw [← hln, List.append_nil]) hP1
      (try k_fold)
      k_steps
      all_goals (have h9 := hret; unfold decT at h9; rw [if_neg (by omega), ← hln, ← hP1] at h9; have es := str_of (d := c.1) rfl; rw [← es] at h9; rename News _ _ _ _ => NZ)
      · rw [if_pos (by assumption), if_pos (by assumption)] at h9
        exact h9 _ _ _ (by assumption) (cb_drop NZ fun p hp => List.mem_cons_of_mem _ hp)
      · rw [if_pos (by assumption), if_neg (by rename _ = false => hF; rw [hF]; decide)] at h9
        exact h9 _ _ _ (by assumption) (cb_drop NZ fun p hp => List.mem_cons_of_mem _ hp)
      · rw [if_neg (by rename _ = false => hF; rw [hF]; decide)] at h9
        exact h9 _ _ _ (by assumption) (cb_drop NZ fun p hp => List.mem_cons_of_mem _ hp)
  · have h9 := hret
    unfold decT at h9
    rw [if_pos (by omega)] at h9
    exact h9 _ _ _ (by assumption) (by assumption)
end
end TextD1
end Mine
namespace Mine
section TextKWM
set_option maxRecDepth 100000
set_option maxHeartbeats 1000000
section
variable {prog : Program} {w : World} {A : Around} {E : Value → Shared → Prop} {s : Shared} {h₀ : Heap} {L : Addr} {m : Str → Option Value} {news : List (Addr × Obj)}
theorem put_new {d : Addr} {es : List DictEntry} {n : Nat} {k : Str} {t : Tok} {hsh : Int} {v : Value} {Q : Unit → Shared → Prop} (F : Fr h₀ L s.heap m) (N : News h₀ L s.heap ((d, dictOf es n) :: news)) (h2 : ∀ p ∈ news, p.1 ≠ d)
    (hall : (es.toArray.all fun e => isExactStrKey e.key) = true) (hs : es.toArray.findIdx? (fun e => e.key.isStr k) = none) (hz : es.length ≤ 5)
    (h : ∀ h', Fr h₀ L h' m → News h₀ L h' ((d, dictOf (es ++ [⟨hsh, .str k t, v⟩]) (n + 1)) :: news) → Q () { s with heap := h' }) :
    wpAny (model prog w) A (dictPut d hsh (.str k t) v) Q E s := by
  have D := (N (d, dictOf es n) (.head _)).1
  have U := news_upd (pre := []) (o' := dictOf (es ++ [⟨hsh, .str k t, v⟩]) (n + 1)) (f := Obj.mapDictKeys (·.push ⟨hsh, .str k t, v⟩)) F N (fun _ hp => nomatch hp) h2 (by simp [dictOf, Obj.mapDictKeys]) rfl
  unfold dictPut
  refine wpAny_bind (KTD.kt_dictFind_strs D rfl hall ?_)
  rw [hs]
  refine wpAny_updateDictKeys D rfl (h _ U.1 U.2) ?_ ?_
  · show es.toArray.size ≤ _
    have : sizeLine ≥ 5 := by decide
    simp; omega
  · simp
theorem merge2 {D d : Addr} {o : Obj} {k1 k2 : Str} {u1 u2 : Tok} {v1 v2 : Value} {g1 g2 : Int} {n0 : Nat} {Q : Unit → Shared → Prop} (F : Fr h₀ L s.heap m) (N : News h₀ L s.heap ((d, dictOf [] 0) :: news)) (h2 : ∀ p ∈ news, p.1 ≠ d)
    (hm : (D, o) ∈ news) (hc : o.cls = .type "dict") (hd : o.data = .dict #[⟨g1, .str k1 u1, v1⟩, ⟨g2, .str k2 u2, v2⟩] n0) (hD : (D == sysModules) = false) (hk : (k1 == k2) = false)
    (h : ∀ h', Fr h₀ L h' m → News h₀ L h' ((d, dictOf [⟨g1, .str k1 u1, v1⟩, ⟨g2, .str k2 u2, v2⟩] 2) :: news) → Q () { s with heap := h' }) :
    wpAny (model prog w) A (mergeMapping d (.ref D) true) Q E s := by
  have O {h' : Heap} {p} (N' : News h₀ L h' (p :: news)) : h'.get? D = some o := (N' _ (.tail _ hm)).1
  have Dd {h' : Heap} {x} (N' : News h₀ L h' ((d, x) :: news)) : h'.get? d = some x := (N' _ (.head _)).1
  have TD : s.TypeIs (.ref D) "dict" := ⟨o, O N, hc⟩
  unfold mergeMapping
  refine wpAny_bind (wpAny_isInstance (b := true) (T := "dict") TD PySem.F.sub_dict_dict ?_)
  rw [if_pos rfl]
  refine wpAny_bind (wpAny_specialOf TD PySem.F.slot_dict_iter.lookup ?_)
  simp only [beq_self_eq_true]
  first | refine wpAny_bind (wpAny_pure ?_) | skip
  dsimp only
  rw [hD, if_neg Bool.false_ne_true]
  refine wpAny_bind (wpAny_dictEntries (Dd N) rfl ?_)
  rw [if_pos (by rfl)]
  refine wpAny_bind (wpAny_dictEntries (O N) hd ?_)
  rw [← Array.forIn_toList]
  simp only [List.forIn_cons, List.forIn_nil, pure_bind]
  refine wpAny_bind (wpAny_dictEntries (O N) hd (wpAny_bind (wpAny_dictEpoch (O N) hd ?_)))
  rw [show List.range (#[(⟨g1, .str k1 u1, v1⟩ : DictEntry), ⟨g2, .str k2 u2, v2⟩]).size = [0, 1] from rfl]
  simp only [List.forIn_cons, List.forIn_nil, bind_assoc]
  refine wpAny_bind (wpAny_dictEntries (O N) hd ?_)
  rw [show (#[(⟨g1, .str k1 u1, v1⟩ : DictEntry), ⟨g2, .str k2 u2, v2⟩])[0]? = some ⟨g1, .str k1 u1, v1⟩ from rfl]
  dsimp only
  refine wpAny_bind (wpAny_bind (wpAny_holding ?_))
  rw [if_pos trivial]
  refine wpAny_bind (KTD.kt_dictFind_strs (Dd N) rfl (by simp [isExactStrKey]) ?_)
  rw [if_neg (by simp)]
  refine put_new F N h2 (by simp) (by simp) (by decide) fun h1 F1 N1 => ?_
  refine wpAny_bind (wpAny_dictEpoch (O N1) hd ?_)
  rw [if_neg (by simp)]
  refine wpAny_pure ?_
  dsimp only
  refine wpAny_bind (wpAny_bind (wpAny_dictEntries (O N1) hd ?_))
  rw [show (#[(⟨g1, .str k1 u1, v1⟩ : DictEntry), ⟨g2, .str k2 u2, v2⟩])[1]? = some ⟨g2, .str k2 u2, v2⟩ from rfl]
  dsimp only
  refine wpAny_bind (wpAny_bind (wpAny_holding ?_))
  rw [if_pos trivial]
  have e1 : (List.toArray ([] ++ [(⟨g1, .str k1 u1, v1⟩ : DictEntry)])).findIdx? (fun e => e.key.isStr k2) = none := by
    simp [Value.isStr]; exact fun e => by simp [e] at hk
  refine wpAny_bind (KTD.kt_dictFind_strs (Dd N1) rfl (by simp [isExactStrKey]) ?_)
  rw [e1]
  rw [if_neg (by simp)]
  refine put_new F1 N1 h2 (by simp [isExactStrKey]) e1 (by simp) fun h3 F3 N3 => ?_
  refine wpAny_bind (wpAny_dictEpoch (O N3) hd ?_)
  rw [if_neg (by simp)]
  refine wpAny_pure ?_
  dsimp only
  exact wpAny_pure (wpAny_pure (h _ F3 N3))
theorem merged_kw {f : Value} {x : Sem Value} {D : Addr} {o : Obj} {k1 k2 : Str} {u1 u2 : Tok} {v1 v2 : Value} {g1 g2 : Int} {n0 : Nat} {Q : Addr → Shared → Prop} (F : Fr h₀ L s.heap m) (N : News h₀ L s.heap news)
    (hm : (D, o) ∈ news) (hc : o.cls = .type "dict") (hd : o.data = .dict #[⟨g1, .str k1 u1, v1⟩, ⟨g2, .str k2 u2, v2⟩] n0) (hD : (D == sysModules) = false) (hk : (k1 == k2) = false)
    (hx : ∀ h' R, Fr h₀ L h' m → News h₀ L h' news → R (.ref D) { s with heap := h' } → wpAny (model prog w) A x R E { s with heap := h' })
    (h : ∀ h' d, Fr h₀ L h' m → News h₀ L h' ((d, dictOf [⟨g1, .str k1 u1, v1⟩, ⟨g2, .str k2 u2, v2⟩] 2) :: news) → Q d { s with heap := h' }) :
    wpAny (model prog w) A (mergedKeywords f [(none, x)]) Q E s := by
  unfold mergedKeywords
  have N1 := News.push F N (dictOf [] 0)
  have F1 := F.push (dictOf [] 0)
  have AP := N.apart
  refine wpAny_bind (wpAny_alloc ?_)
  refine wpAny_bind (wpAny_holding ?_)
  refine wpAny_bind ?_
  rw [List.forIn_cons]
  refine wpAny_bind (wpAny_bind ?_)
  refine wpAny_ite (c := ([] : List (Str × Sem Value)).isEmpty = true) ?_
  rw [if_pos (by rfl)]
  refine wpAny_pure ?_
  refine wpAny_bind ?_
  refine hx _ _ F1 (fun p hp => N1 p (.tail _ hp)) ?_
  refine wpAny_bind (wpAny_onRaise (wpAny_holding (wpAny_tryCatch (wpAny_onRaise (merge2 F1 N1 AP hm hc hd hD hk fun h2 F2 N2 => ?_)))))
  refine wpAny_pure ?_
  refine wpAny_pure ?_
  refine wpAny_ite (c := ([] : List (Str × Sem Value)).isEmpty = true) ?_
  rw [if_pos (by rfl)]
  refine wpAny_pure ?_
  exact wpAny_pure (h _ _ F2 N2)
theorem kw_in {f : Value} {d : Addr} {k1 k2 : Str} {u1 u2 : Tok} {v1 v2 : Value} {g1 g2 : Int} {Q : List (Str × Value) → Shared → Prop} (N : News h₀ L s.heap ((d, dictOf [⟨g1, .str k1 u1, v1⟩, ⟨g2, .str k2 u2, v2⟩] 2) :: news))
    (h : Q [(k1, v1), (k2, v2)] s) :
    wpAny (model prog w) A (keywordsIn f d) Q E s := by
  have D := (N _ (.head _)).1
  unfold keywordsIn
  refine wpAny_bind (wpAny_dictEntries D rfl ?_)
  rw [← Array.forIn_toList]
  refine wpAny_bind ?_
  rw [List.forIn_cons]
  refine wpAny_bind (wpAny_pure ?_)
  refine wpAny_bind (wpAny_pure ?_)
  exact wpAny_pure (wpAny_pure h)
theorem call_star_kw {f : Value} {first : List Value} {pos : Pos} {Q : Value → Shared → Prop} {P : Heap → Prop} {args : List (Bool × Sem Value)} {keywords : List (Option Str × Sem Value)} (hst : (args.any (·.1) || keywords.any (·.1.isNone)) = true)
    (hk : ∀ h, P h → ∃ k, (k = Keeper.frame ∨ k = Keeper.machine ∨ k = Keeper.boundFrame) ∧ Looks (model prog w) h (keeperOf f) k)
    (h : wpAny (model prog w) A (evalArgs f true args keywords) (fun a s₁ => P s₁.heap ∧ wpAny (model prog w) A (call f (first ++ a.pos) a.kw) Q E s₁) E s) : wpAny (model prog w) A (callWith pos f first args keywords) Q E s := by
  unfold callWith
  refine wpAny_bind (wpAny_holding (wpAny_mono h (fun a s₁ h₁ => wpAny_bind (wpAny_standAt ?_)) fun _ _ x => x))
  obtain ⟨k, hk', L⟩ := hk _ h₁.1
  simp only [hst]
  refine wpAny_bind (L.here ?_)
  have tail : ∀ {t : Sem Value}, wpAny (model prog w) A t Q E s₁ → wpAny (model prog w) A (t >>= fun r => holding [r] point >>= fun _ => pure r) Q E s₁ :=
    fun ht => wpAny_bind (wpAny_mono ht (fun r s₂ hr => wpAny_bind (wpAny_holding (wpAny_point (wpAny_pure hr)))) fun _ _ x => x)
  have marked (mk : Value) : wpAny (model prog w) A (callMarked mk f (first ++ a.pos) a.kw) Q E s₁ := by unfold callMarked; exact Calls.wpAny_keep h₁.2
  rcases hk' with rfl | rfl | rfl <;> dsimp only <;> first | exact tail (marked _) | exact tail (wpAny_operating h₁.2)
theorem args_kwm {f : Value} {x y : Sem Value} {D : Addr} {o : Obj} {k1 k2 : Str} {u1 u2 : Tok} {v1 v2 : Value} {g1 g2 : Int} {n0 : Nat} {Q : Args → Shared → Prop}
    (hm : (D, o) ∈ news) (hc : o.cls = .type "dict") (hd : o.data = .dict #[⟨g1, .str k1 u1, v1⟩, ⟨g2, .str k2 u2, v2⟩] n0) (hD : (D == sysModules) = false) (hk : (k1 == k2) = false)
    (hy : wpAny (model prog w) A (spliced [(false, y)]) (fun vs s₁ => Fr h₀ L s₁.heap m ∧ News h₀ L s₁.heap news ∧ 
      (∀ h' R, Fr h₀ L h' m → News h₀ L h' news → R (.ref D) { s₁ with heap := h' } → wpAny (model prog w) A x R E { s₁ with heap := h' }) ∧
      (∀ h' d, Fr h₀ L h' m → News h₀ L h' ((d, dictOf [⟨g1, .str k1 u1, v1⟩, ⟨g2, .str k2 u2, v2⟩] 2) :: news) → Q ⟨vs, [(k1, v1), (k2, v2)]⟩ { s₁ with heap := h' })) E s) :
    wpAny (model prog w) A (evalArgs f true [(false, y)] [(none, x)]) Q E s := by
  unfold evalArgs
  show wpAny _ A (spliced [(false, y)] >>= _) Q E s
  refine wpAny_bind (wpAny_mono hy (fun vs s' h' => ?_) fun _ _ x => x)
  obtain ⟨F, N, hx, h⟩ := h'
  refine wpAny_holding ?_
  refine wpAny_bind (merged_kw F N hm hc hd hD hk hx fun h2 d F2 N2 => ?_)
  refine wpAny_bind (wpAny_pure ?_)
  refine wpAny_bind (wpAny_holding (kw_in N2 ?_))
  exact wpAny_pure (h _ _ F2 N2)
theorem callWith_KWM {K : Frag} {env : Env} {pos p : Pos} {f : Value} {e e2 : Expr} {D : Addr} {o : Obj} {k1 k2 : Str} {u1 u2 : Tok} {v1 v2 : Value} {g1 g2 : Int} {n0 : Nat} {Q : Value → Shared → Prop} (_F : Fr h₀ L s.heap m) (_N : News h₀ L s.heap news) (X : K.In h₀) (hkI : keepIn K f = true)
    (hm : (D, o) ∈ news) (hc : o.cls = .type "dict") (hd : o.data = .dict #[⟨g1, .str k1 u1, v1⟩, ⟨g2, .str k2 u2, v2⟩] n0) (hD : (D == sysModules) = false) (hk : (k1 == k2) = false)
    (hx : ∀ s' R, Fr h₀ L s'.heap m → News h₀ L s'.heap news → R (.ref D) s' → wpAny (model prog w) A (eval e2 env) R E s')
    (h : wpAny (model prog w) A (spliced (backTo pos (starEach [e] env))) (fun vs s₁ => Fr h₀ L s₁.heap m ∧ News h₀ L s₁.heap news ∧ 
      (∀ h', Fr h₀ L h' m → News h₀ L h' news → wpAny (model prog w) A (call f vs [(k1, v1), (k2, v2)]) Q E { s₁ with heap := h' })) E s)
    (he : starEach [e] env = [(false, eval e env)] := by rfl) (he2 : keywordEach [⟨none, e2, p⟩] env = [(none, eval e2 env)] := by rfl) :
    wpAny (model prog w) A (callWith pos f [] (backTo pos (starEach [e] env)) (backToKw pos (keywordEach [⟨none, e2, p⟩] env))) Q E s := by
  rw [he] at h ⊢
  rw [he2]
  show wpAny (model prog w) A (callWith pos f [] [(false, eval e env)] [(none, (do let v ← eval e2 env; standAt pos; pure v))]) Q E s
  refine call_star_kw rfl (keeps_K hkI) (P := fun h => K.In h) ?_
  refine args_kwm (h₀ := h₀) (L := L) (m := m) hm hc hd hD hk (wpAny_mono h (fun vs s₁ h₁ => ?_) fun _ _ x => x)
  obtain ⟨F, N, h₂⟩ := h₁
  refine ⟨F, N, fun h' R F' N' hR => wpAny_bind (hx _ _ F' N' (wpAny_bind (wpAny_standAt (wpAny_pure hR)))), fun h' d F' N' => ⟨X.keeps F'.keep, h₂ h' F' fun p hp => N' p (.tail _ hp)⟩⟩
theorem dict2 {k1 k2 : Str} {v1 v2 : Value} {o : Obj} (h : o.IsDictOf (strKind prog w) [(k1, v1), (k2, v2)]) : ∃ g1 u1 g2 u2 n0, o.cls = .type "dict" ∧ o.data = .dict #[⟨g1, .str k1 u1, v1⟩, ⟨g2, .str k2 u2, v2⟩] n0 := by
  obtain ⟨es, ep, hc, hd, hk, hp, hn⟩ := h
  obtain ⟨l⟩ := es
  cases hp with
  | cons a b hp => 
    cases hp with
    | cons a' b' hp => 
      cases hp
      obtain ⟨u1, e1⟩ := Value.isStrOf_shape a
      obtain ⟨u2, e2⟩ := Value.isStrOf_shape a'
      rename_i x y
      obtain ⟨hx, kx, vx⟩ := x
      obtain ⟨hy, ky, vy⟩ := y
      simp only at b b' e1 e2
      subst e1 e2 b b'
      exact ⟨_, u1, _, u2, ep, hc.1, hd⟩
end
end TextKWM
end Mine
namespace Mine
section TextE2
set_option maxRecDepth 100000
set_option maxHeartbeats 1000000
theorem fill4 (w : World) (h : Heap) : (hd.heap_39 w.params).In h → PySem.Challenge.rw_ik0034_01 = PySem.Challenge.rw_ik0034_01 := by
  k_fill
  intro _; rfl
section
variable {w : World} {mean : ExcName → Option Value} {mg mb : Str → Option Value} {dp un : Nat} {gd : Option (List Code)} {cn : Str} {cs : Scope} {a : Addr} {ccd : Value} {cl : List (Str × Addr)} {outer : List Env} {A₀ : Around} {base h₀ : Heap} {L : Addr} {m : Str → Option Value} {news : List (Addr × Obj)} {s : Shared}
    {Q E : Value → Shared → Prop}
    (B : Below A₀ base outer h₀) (F : Fr h₀ L s.heap m) (X : (hd.heap_39 w.params).In h₀) (N : News h₀ L s.heap news) (T : Top hd.view_39 Lo mean mg mb h₀) (hk : cs.kind = .function)
include B F X N T hk
theorem words_8 : True := by
  k_with_none
  (k_with "ne" => (first | k_extra "ne0" | k_extra "ne1"))
  (k_with "ne0" => (with_reducible first | assumption | exact Nat.succ_ne_self _ | exact (Nat.succ_ne_self _).symm | exact ne_off2 | exact ne_off2.symm | exact ne_off3 | exact ne_off3.symm | exact ne_off4 | exact ne_off4.symm | exact ne_off5 | exact ne_off5.symm))
  (k_with "ne1" => (((with_reducible rename _ ∧ _ => h9); first | (with_reducible first | exact h9.1.symm | exact Nat.ne_of_gt h9.1 | exact h9.1 | exact Nat.ne_of_lt h9.1 | exact h9.2.1.symm | exact Nat.ne_of_gt h9.2.1 | exact h9.2.1 | exact Nat.ne_of_lt h9.2.1 | exact h9.2.2.1.symm | exact Nat.ne_of_gt h9.2.2.1 | exact h9.2.2.1 | exact Nat.ne_of_lt h9.2.2.1 | exact h9.2.2.2.1.symm | exact Nat.ne_of_gt h9.2.2.2.1 | exact h9.2.2.2.1 | exact Nat.ne_of_lt h9.2.2.2.1 | exact h9.2.2.2.2.1.symm | exact Nat.ne_of_gt h9.2.2.2.2.1 | exact h9.2.2.2.2.1 | exact Nat.ne_of_lt h9.2.2.2.2.1 | exact h9.2.2.2.2.2.1.symm | exact Nat.ne_of_gt h9.2.2.2.2.2.1 | exact h9.2.2.2.2.2.1 | exact Nat.ne_of_lt h9.2.2.2.2.2.1 | exact h9.2.2.2.2.2.2.1.symm | exact Nat.ne_of_gt h9.2.2.2.2.2.2.1 | exact h9.2.2.2.2.2.2.1 | exact Nat.ne_of_lt h9.2.2.2.2.2.2.1 | exact h9.2.2.2.2.2.2.2.1.symm | exact Nat.ne_of_gt h9.2.2.2.2.2.2.2.1 | exact h9.2.2.2.2.2.2.2.1 | exact Nat.ne_of_lt h9.2.2.2.2.2.2.2.1 | exact h9.2.2.2.2.2.2.2.2.1.symm | exact Nat.ne_of_gt h9.2.2.2.2.2.2.2.2.1 | exact h9.2.2.2.2.2.2.2.2.1 | exact Nat.ne_of_lt h9.2.2.2.2.2.2.2.2.1 | exact h9.2.2.2.2.2.2.2.2.2.1.symm | exact Nat.ne_of_gt h9.2.2.2.2.2.2.2.2.2.1 | exact h9.2.2.2.2.2.2.2.2.2.1 | exact Nat.ne_of_lt h9.2.2.2.2.2.2.2.2.2.1 | exact h9.2.2.2.2.2.2.2.2.2.2.1.symm | exact Nat.ne_of_gt h9.2.2.2.2.2.2.2.2.2.2.1 | exact h9.2.2.2.2.2.2.2.2.2.2.1 | exact Nat.ne_of_lt h9.2.2.2.2.2.2.2.2.2.2.1 | exact h9.2.2.2.2.2.2.2.2.2.2.2.1.symm | exact Nat.ne_of_gt h9.2.2.2.2.2.2.2.2.2.2.2.1 | exact h9.2.2.2.2.2.2.2.2.2.2.2.1 | exact Nat.ne_of_lt h9.2.2.2.2.2.2.2.2.2.2.2.1 | exact h9.2.2.2.2.2.2.2.2.2.2.2.2.1.symm | exact Nat.ne_of_gt h9.2.2.2.2.2.2.2.2.2.2.2.2.1 | exact h9.2.2.2.2.2.2.2.2.2.2.2.2.1 | exact Nat.ne_of_lt h9.2.2.2.2.2.2.2.2.2.2.2.2.1 | exact h9.2.2.2.2.2.2.2.2.2.2.2.2.2.1.symm | exact Nat.ne_of_gt h9.2.2.2.2.2.2.2.2.2.2.2.2.2.1 | exact h9.2.2.2.2.2.2.2.2.2.2.2.2.2.1 | exact Nat.ne_of_lt h9.2.2.2.2.2.2.2.2.2.2.2.2.2.1 | exact h9.2.2.2.2.2.2.2.2.2.2.2.2.2.2.1.symm | exact Nat.ne_of_gt h9.2.2.2.2.2.2.2.2.2.2.2.2.2.2.1 | exact h9.2.2.2.2.2.2.2.2.2.2.2.2.2.2.1 | exact Nat.ne_of_lt h9.2.2.2.2.2.2.2.2.2.2.2.2.2.2.1 | exact h9.2.2.2.2.2.2.2.2.2.2.2.2.2.2.2.1.symm | exact Nat.ne_of_gt h9.2.2.2.2.2.2.2.2.2.2.2.2.2.2.2.1 | exact h9.2.2.2.2.2.2.2.2.2.2.2.2.2.2.2.1 | exact Nat.ne_of_lt h9.2.2.2.2.2.2.2.2.2.2.2.2.2.2.2.1) | (clear h9; k_extra "ne1"))))
  (k_with "my_enterM" => (((refine' kp_more ?k1 ?k2 ?k3 ?k4 ?k5 ?kA ?kF ?kK ?k6 ?k7 ?k8 ?kX ?kM ?kN ?kD ?kR ?kP ?kT ?kB ?_ ?c2 ?c3 ?c4 ?c5; (case kA => exact rfl); (case kF => exact rfl); (case kK => first | exact rfl | assumption); (case k1 => k_asm); (case k2 => k_asm); (case k3 => k_asm); (case k4 => k_asm); (case k5 => k_asm); (case k6 => k_is); (case k7 => k_is); (case k8 => ktr_room); (case kX => kp_lit); (case kM => exact rfl); (case kN => exact rfl); (case kD => kp_flats); (case kR => exact rfl); (case kP => exact rfl); (case kT => exact fun _ => rfl); (case kB => exact fun _ => locs rfl); (case c5 => decide); (case c2 => exact rfl); (case c3 => exact rfl); (case c4 => exact rfl); k_whole; intro D' o' g' L' h' tk' l1 lo' hs' fs' FG' F' N' B' X' T'; (try k_lt l1); (try dsimp only); (try k_lift B'); (try k_fold)))))
  (k_with "my callWith ref" => ((k_here; (with_reducible show wpAny _ _ (callWith _ (Value.ref 57) [] _ (backToKw _ (keywordEach [⟨none, _, _⟩] _))) _ _ _); (refine' callWith_KWM ?k1 ?k2 ?kX ?kI ?km ?kc ?kd ?kD ?kk ?kx ?_; (case k1 => k_asm); (case k2 => k_asm); (case kX => assumption); (case kI => k_is); (case km => exact List.mem_cons_self); (case kc => with_reducible assumption); (case kd => with_reducible assumption); (case kD => with_reducible assumption); (case kk => decide +kernel); (case kx => (intro s' R F9 N9 hR; k_steps; exact hR))))))
  (k_with "my call ref" => ((k_here; (with_reducible show wpAny _ _ (call (Value.ref 57) [Value.str _ _] _) _ _ _); (k_dflt (refine' be_kw_spec ?k1 ?k2 ?k3 ?k4 ?k5 ?kK ?kd ?ku ?kx ?ko ?ky ?kl ?kL ?_; (case k1 => k_asm); (case k2 => k_asm); (case k3 => k_asm); (case k4 => k_asm); (case k5 => k_asm); (case kK => first | exact rfl | assumption); (case kd => ktr_room); (case ku => ktr_units); (case kx => with_reducible assumption);  (case ko => with_reducible assumption);  (case ky => with_reducible assumption);  (case kl => with_reducible assumption);  (case kL => with_reducible assumption))); intro t9 h9 tk9 F9 N9; (try dsimp only))))
  trivial
theorem name_spec {x y : Str} {t u v : Tok} {k : Int}
    (hdp : dp + 3 < recursionLimit) (hu : un + 24 < cLine) (hx : x.length ≤ 150) (hok : ∀ c ∈ x.cps.toList, okc c = true) (hy : y.length ≤ 2) (hkl : 4 ≤ k ∧ k ≤ 1000)
    (hlines : ∀ y ∈ Txt.lines ⟨(x.cps.toList.flatMap tr).toArray⟩, LineOk k y)
    (hret : ∀ t1 t2 h' tk' D, Fr h₀ L h' m → News h₀ L h' ((D, { cls := .type "tuple", data := .seq #[.str (encT k y x) t1, .str (encT k y x) t2] }) :: news) → Q (.ref D) { s with heap := h', toks := tk' }) :
    wpAny (model PySem.Challenge.rw_ik0034_01.row.prog w) (ktrTop dp un gd cn cs L a ccd cl outer) (call (.ref 95) [.str x t, .ref 57] [(Str.ofString "maxlinelen", .int k u), (Str.ofString "eol", .str y v)]) Q E s := by
  refine wpAny_call ?_
  k_dflt (k_extra "my_enterM")
  rename Obj.IsDictOf _ _ _ => hs
  obtain ⟨g1, u1, g2, u2, n0, hc0, hd0⟩ := dict2 hs
  k_steps
  · assumption
  · assumption
  · rename News _ _ _ (_ :: _ :: _) => NZ
    exact hret _ _ _ _ _ (by assumption) (cb_drop NZ fun p hp => by
      rcases List.mem_cons.mp hp with rfl | hp
      · exact List.mem_cons_self
      · exact List.mem_cons_of_mem _ (List.mem_cons_of_mem _ hp))
end
end TextE2
end Mine
namespace Mine
section TextCG
set_option maxRecDepth 100000
set_option maxHeartbeats 1000000
structure HoldC (p : Prop) : Prop where
  out : p
noncomputable def TurnEnd (h₀ : Heap) (L : Addr) (m : Str → Option Value) (s₁ : Shared) (I : Addr) (oI : Obj) (C : Addr) (oC : Obj) (D : Addr) (oD : Obj) (news : List (Addr × Obj)) (R : Value → Prop) (y : Value) (s₂ : Shared) : Prop :=
  ∃ h' tk, s₂ = { s₁ with heap := h', toks := tk } ∧ Fr h₀ L h' m ∧ News h₀ L h' ((I, oI) :: (C, oC) :: (D, oD) :: news) ∧ R y
section
variable {prog : Program} {w : World} {A : Around} {h₀ : Heap} {L : Addr} {m : Str → Option Value} {env : Env} {elt : Expr} {x : Str} {scope : Scope} {cl : List (Str × Addr)} {s : Shared} {S : List (Addr × Obj) → Prop} {P : Nat → Value → Prop} {Fin : List Value → List (Addr × Obj) → Prop} {news : List (Addr × Obj)}
theorem turn_end {s₁ : Shared} {I C D : Addr} {oI oC oD : Obj} {R : Value → Prop} {y : Value} {h' : Heap} {tk : Nat} {all : List (Addr × Obj)} (F : Fr h₀ L h' m) (N : News h₀ L h' all) (sub : ∀ p ∈ (I, oI) :: (C, oC) :: (D, oD) :: news, p ∈ all) (r : R y) :
    TurnEnd h₀ L m s₁ I oI C oC D oD news R y { s₁ with heap := h', toks := tk } := ⟨h', tk, rfl, F, fun p hp => N p (sub p hp), r⟩
theorem comp_go {n : Nat} (Inv : Nat → List Value → Prop) (h0 : Inv 0 []) (hS : S news)
    (turn : ∀ i v ys I oI C oC D m₂ h tk (E' : Value → Shared → Prop), i < n → P i v → Inv i ys → LCg.NsObj oC m₂ → m₂ x = some v → Fr h₀ L h m → News h₀ L h ((I, oI) :: (C, oC) :: (D, LCg.lst ys) :: news) → LCg.Off3 I C D news → ((@Ne Nat I C) ∧ (@Ne Nat I D) ∧ (@Ne Nat C D)) →
      wpAny (model prog w) A (eval elt (compEnvC scope cl C env)) (TurnEnd h₀ L m { s with heap := h, toks := tk } I oI C oC D (LCg.lst ys) news (fun y => Inv (i + 1) (ys ++ [y]))) E' { s with heap := h, toks := tk })
    (fin : ∀ ys, Inv n ys → Fin ys news) : LCg.CompRest prog w A h₀ L m env elt x scope cl s S P Fin n 0 [] news := by
  have key : ∀ (j i : Nat) (ys : List Value), i + j = n → Inv i ys → LCg.CompRest prog w A h₀ L m env elt x scope cl s S P Fin j i ys news := by
    intro j
    induction j with
    | zero =>
      intro i ys hi hy
      have e : i = n := by omega
      subst e
      exact LCg.CompRest.zero (fin ys hy)
    | succ j ih =>
      intro i ys hi hy
      refine LCg.CompRest.succ ?_
      intro v I oI C oC D m₂ h tk E' hv hC hx F N off ne
      refine wpAny_mono (turn i v ys I oI C oC D m₂ h tk E' (by omega) hv hy hC hx F N off ne) (fun y s₂ hq => ?_) fun _ _ e => e
      obtain ⟨h', tk', e, F', N', r⟩ := hq
      exact ⟨h', tk', news, e, F', N', off, hS, ih (i + 1) _ (by omega) r⟩
  exact key n 0 [] (by omega) h0
end
theorem lens_inv {ls : List (Str × Tok)} {i : Nat} {v : Value} {ys : List Value} {f : Str → Int} (h : (strValues ls).toArray[i]? = some v) (hy : IntsAre ys ((((ls.map (·.1)).take i)).map f)) :
    ∃ y t, v = .str y t ∧ y ∈ ls.map (·.1) ∧ ∀ u, IntsAre (ys ++ [.int (f y) u]) ((((ls.map (·.1)).take (i + 1))).map f) := by
  obtain ⟨y, t, e, e1, e2⟩ := strs_get (by simpa using h)
  refine ⟨y, t, e, by rw [e1]; simp, fun u => ?_⟩
  rw [e2, List.map_append]
  exact IntsAre.append hy (.cons _ u .nil)
end TextCG
end Mine
namespace Mine
section TextLT
set_option maxRecDepth 100000
set_option maxHeartbeats 1000000
section
variable {prog : Program} {w : World} {A₀ A : Around} {s : Shared} {base h₀ : Heap} {env : Env} {L : Addr} {m : Str → Option Value} {news : List (Addr × Obj)} {K : Frag} {p : Program} {loose : List Str} {mean : ExcName → Option Value} {mg mb : Str → Option Value}
    {R : Result → Shared → Prop} {name qual : Str} {params : Arguments} {body : List Stmt} {scope : Scope} {dV kV doc pm cdv ct oc : Value} {an od : Option Addr} {osl : Array (Option Value)} {f : Addr} {args : Args} {binds : List (Str × Value)}
theorem code_turn (B : Below A₀ base [] h₀) (F : Fr h₀ L s.heap m) (X₀ : K.In h₀) (N : News h₀ L s.heap news) (T : Top p loose mean mg mb h₀) (hA : A.frames = some [env]) (hf : env.frame = some L) (hke : env.scope.kind = .function)
    (ho : K.lookup f = some ⟨oc, od, .func (fnOf name qual params body scope dV kV doc pm an cdv ct), osl⟩) (hcd : codeIn K cdv qual = true) (hroom : A.depth < recursionLimit)
    (hbind : BindsTo s (fnOf name qual params body scope dV kV doc pm an cdv ct) args binds) (hloc : ∀ y ∈ binds, scope.names.lookup y.1 = some .local)
    (h : ∀ g L' h₁, Fr h₀ L g m → Fr g L' h₁ (fun y => binds.reverse.lookup y) → News g L' h₁ news → Below A base [env] g → K.In g → Top p loose mean mg mb g → KtsDicts ([env].filterMap (·.frame)) g →
      wpAny (model prog w) (A.deeper (envOf qual scope L' f cdv)) (execs body (envOf qual scope L' f cdv))
        (fun fl s' => LeaveS0 ([env].filterMap (·.frame)) h₀ L m g R (match fl with | .ret v => v | _ => .none) s')
        (fun e s' => wpAny (model prog w) (A.deeper (envOf qual scope L' f cdv)) (leaving (envOf qual scope L' f cdv) e) (fun _ s'' => R (.error e) s'') (fun e' s'' => R (.error e') s'') s')
        { s with heap := h₁, toks := s.toks + binds.length })
    (hco : scope.isCoroutine = false) (hgen : scope.isGenerator = false) (hk : scope.kind = .function)
    (hcell : ∀ x ∈ scope.names, x.2 ≠ .cell) : codeAny (model prog w) A (.call (.ref f) args) R s := by
  have X := X₀.keeps F.keep
  refine codeAny_call_def (fd := fnOf name qual params body scope dV kV doc pm an cdv ct) (body := body) (binds := binds) hroom (X _ _ ho) rfl (T.nolimit.keeps F.keep) (codeRec_of X hcd) rfl hbind hcell hloc (fun h₁ hns hk₁ => ?_) hco hgen hk
  obtain ⟨FG, BG, st, _⟩ := groundX (R := R) B F N hA hf hke
  have only : ∀ b ∈ [env].filterMap (·.frame), b = L := fun b hb => by
    obtain ⟨e, he, hfe⟩ := List.mem_filterMap.mp hb
    rw [List.mem_singleton.mp he, hf] at hfe
    exact (Option.some.inj hfe).symm
  have nL₀ : h₀.get? L = none := kts_self F
  obtain ⟨oL, es, ep, hLg, hLd, hLk, hLf⟩ := FG.ns
  refine wpAny_mono (h _ s.heap.objs.size h₁ FG ⟨hns, fun b o e => hk₁ b o (of_hideAll _ e), Nat.le_of_eq (hideAll_size _ _)⟩
    (fun p hp => ⟨hk₁ _ _ (N p hp).1, Nat.ne_of_lt (Heap.lt_size (N p hp).1), hideAll_none _ (List.mem_map_of_mem hp)⟩) BG (X₀.keeps st) (T.keeps st)
    (fun b hb => ⟨oL, es, ep, by rw [only b hb]; exact hLg, hLd⟩)) (fun fl s' hl => ?_) fun _ _ y => y
  obtain ⟨g', L', m', news', T', F', N', k⟩ := hl
  obtain ⟨sl, hs⟩ := T'.up hLg
  refine k ⟨⟨_, es, ep, F'.keep _ _ hs, hLd, hLk, hLf⟩, fun b o e => F'.keep b o (T'.other b o (st b o e) fun q => ?_), F.above⟩ fun p hp => ⟨(N' p hp).1, fun q => ?_, ?_⟩
  · rw [only b q, nL₀] at e
    cases e
  · have := (N' p hp).2.2
    rw [q, hs] at this
    cases this
  · cases q : h₀.get? p.1 with
    | none => rfl
    | some o =>
      obtain ⟨sl', hs'⟩ := T'.up (st _ _ q)
      have := (N' p hp).2.2
      rw [hs'] at this
      cases this
end
end TextLT
end Mine
namespace Mine
section TextE3
set_option maxRecDepth 100000
set_option maxHeartbeats 1000000
theorem split_size {l9 : List (Str × Tok)} {z y : Str} (e : l9.map (·.1) = Txt.split z y) (hz : z.length ≤ 600) : (strValues l9).toArray.size ≤ sizeLine := by
  have h := len_le_of_split e
  have : sizeLine ≥ 700 := by decide
  rw [List.size_toArray]; unfold strValues; rw [List.length_map]; omega
theorem fill7 (w : World) (h : Heap) : (hd.heap_39 w.params).In h → PySem.Challenge.rw_ik0034_01 = PySem.Challenge.rw_ik0034_01 := by
  k_fill
  intro _; rfl
section
variable {w : World} {mean : ExcName → Option Value} {mg mb : Str → Option Value} {dp un : Nat} {gd : Option (List Code)} {cn : Str} {cs : Scope} {a : Addr} {ccd : Value} {cl : List (Str × Addr)} {outer : List Env} {A₀ : Around} {base h₀ : Heap} {L : Addr} {m : Str → Option Value} {news : List (Addr × Obj)} {s : Shared}
    {Q E : Value → Shared → Prop}
    (B : Below A₀ base outer h₀) (F : Fr h₀ L s.heap m) (X : (hd.heap_39 w.params).In h₀) (N : News h₀ L s.heap news) (T : Top hd.view_39 Lo mean mg mb h₀) (hk : cs.kind = .function)
include B F X N T hk
theorem words_9 : True := by
  k_with_none
  (k_with "ne" => (first | k_extra "ne0" | k_extra "ne1"))
  (k_with "ne0" => (with_reducible first | assumption | exact Nat.succ_ne_self _ | exact (Nat.succ_ne_self _).symm | exact ne_off2 | exact ne_off2.symm | exact ne_off3 | exact ne_off3.symm | exact ne_off4 | exact ne_off4.symm | exact ne_off5 | exact ne_off5.symm))
  (k_with "ne1" => (((with_reducible rename _ ∧ _ => h9); first | (with_reducible first | exact h9.1.symm | exact Nat.ne_of_gt h9.1 | exact h9.1 | exact Nat.ne_of_lt h9.1 | exact h9.2.1.symm | exact Nat.ne_of_gt h9.2.1 | exact h9.2.1 | exact Nat.ne_of_lt h9.2.1 | exact h9.2.2.1.symm | exact Nat.ne_of_gt h9.2.2.1 | exact h9.2.2.1 | exact Nat.ne_of_lt h9.2.2.1 | exact h9.2.2.2.1.symm | exact Nat.ne_of_gt h9.2.2.2.1 | exact h9.2.2.2.1 | exact Nat.ne_of_lt h9.2.2.2.1 | exact h9.2.2.2.2.1.symm | exact Nat.ne_of_gt h9.2.2.2.2.1 | exact h9.2.2.2.2.1 | exact Nat.ne_of_lt h9.2.2.2.2.1 | exact h9.2.2.2.2.2.1.symm | exact Nat.ne_of_gt h9.2.2.2.2.2.1 | exact h9.2.2.2.2.2.1 | exact Nat.ne_of_lt h9.2.2.2.2.2.1 | exact h9.2.2.2.2.2.2.1.symm | exact Nat.ne_of_gt h9.2.2.2.2.2.2.1 | exact h9.2.2.2.2.2.2.1 | exact Nat.ne_of_lt h9.2.2.2.2.2.2.1 | exact h9.2.2.2.2.2.2.2.1.symm | exact Nat.ne_of_gt h9.2.2.2.2.2.2.2.1 | exact h9.2.2.2.2.2.2.2.1 | exact Nat.ne_of_lt h9.2.2.2.2.2.2.2.1 | exact h9.2.2.2.2.2.2.2.2.1.symm | exact Nat.ne_of_gt h9.2.2.2.2.2.2.2.2.1 | exact h9.2.2.2.2.2.2.2.2.1 | exact Nat.ne_of_lt h9.2.2.2.2.2.2.2.2.1 | exact h9.2.2.2.2.2.2.2.2.2.1.symm | exact Nat.ne_of_gt h9.2.2.2.2.2.2.2.2.2.1 | exact h9.2.2.2.2.2.2.2.2.2.1 | exact Nat.ne_of_lt h9.2.2.2.2.2.2.2.2.2.1 | exact h9.2.2.2.2.2.2.2.2.2.2.1.symm | exact Nat.ne_of_gt h9.2.2.2.2.2.2.2.2.2.2.1 | exact h9.2.2.2.2.2.2.2.2.2.2.1 | exact Nat.ne_of_lt h9.2.2.2.2.2.2.2.2.2.2.1 | exact h9.2.2.2.2.2.2.2.2.2.2.2.1.symm | exact Nat.ne_of_gt h9.2.2.2.2.2.2.2.2.2.2.2.1 | exact h9.2.2.2.2.2.2.2.2.2.2.2.1 | exact Nat.ne_of_lt h9.2.2.2.2.2.2.2.2.2.2.2.1 | exact h9.2.2.2.2.2.2.2.2.2.2.2.2.1.symm | exact Nat.ne_of_gt h9.2.2.2.2.2.2.2.2.2.2.2.2.1 | exact h9.2.2.2.2.2.2.2.2.2.2.2.2.1 | exact Nat.ne_of_lt h9.2.2.2.2.2.2.2.2.2.2.2.2.1 | exact h9.2.2.2.2.2.2.2.2.2.2.2.2.2.1.symm | exact Nat.ne_of_gt h9.2.2.2.2.2.2.2.2.2.2.2.2.2.1 | exact h9.2.2.2.2.2.2.2.2.2.2.2.2.2.1 | exact Nat.ne_of_lt h9.2.2.2.2.2.2.2.2.2.2.2.2.2.1 | exact h9.2.2.2.2.2.2.2.2.2.2.2.2.2.2.1.symm | exact Nat.ne_of_gt h9.2.2.2.2.2.2.2.2.2.2.2.2.2.2.1 | exact h9.2.2.2.2.2.2.2.2.2.2.2.2.2.2.1 | exact Nat.ne_of_lt h9.2.2.2.2.2.2.2.2.2.2.2.2.2.2.1 | exact h9.2.2.2.2.2.2.2.2.2.2.2.2.2.2.2.1.symm | exact Nat.ne_of_gt h9.2.2.2.2.2.2.2.2.2.2.2.2.2.2.2.1 | exact h9.2.2.2.2.2.2.2.2.2.2.2.2.2.2.2.1 | exact Nat.ne_of_lt h9.2.2.2.2.2.2.2.2.2.2.2.2.2.2.2.1) | (clear h9; k_extra "ne1"))))
  (k_with "my_enter" => ((refine' code_def ?k1 ?k2 ?k3 ?k4 ?k5 ?kA ?kF ?kK ?k6 ?k7 ?k8 ?k9 ?kB ?_ ?c2 ?c3 ?c4 ?c5; (case kA => exact rfl); (case kF => exact rfl); (case kK => assumption); (case k1 => k_asm); (case k2 => k_asm); (case k3 => k_asm); (case k4 => k_asm); (case k5 => k_asm); (case k6 => k_is); (case k7 => k_is); (case k8 => ktr_room); (case k9 => first | exact BindsTo.of_eq rfl | exact binds_K (by k_in) rfl (by k_is) rfl rfl rfl); (case c5 => decide); (case kB => exact locs rfl); (case c2 => exact rfl); (case c3 => exact rfl); (case c4 => exact rfl); k_whole; intro g' L' h' FG' F' N' B' X' T'; (try dsimp only); (try k_lift B'); (try k_fold))))
  (k_with "my call ref" => ((k_here; (with_reducible show wpAny _ _ (call (Value.ref 95) [Value.str _ _, Value.ref 57] _) _ _ _); (k_dflt (refine' name_spec ?k1 ?k2 ?k3 ?k4 ?k5 ?kK ?kd ?ku ?kx ?ko ?ky ?kl ?kL ?_; (case k1 => k_asm); (case k2 => k_asm); (case k3 => k_asm); (case k4 => k_asm); (case k5 => k_asm); (case kK => first | exact rfl | assumption); (case kd => ktr_room); (case ku => ktr_units); (case kx => with_reducible assumption); (case ko => with_reducible assumption); (case ky => with_reducible assumption); (case kl => with_reducible assumption); (case kL => with_reducible assumption))); intro t1 t2 h9 tk9 D9 F9 N9; (try dsimp only))))
  (k_with "my call ref" => ((k_here; (with_reducible show wpAny _ _ (call (Value.ref 57) [Value.str _ _, Value.int _ _, Value.str _ _]) _ _ _); (k_dflt (refine' be_spec ?k1 ?k2 ?k3 ?k4 ?k5 ?kK ?kd ?ku ?kx ?ko ?ky ?kl ?kL ?_; (case k1 => k_asm); (case k2 => k_asm); (case k3 => k_asm); (case k4 => k_asm); (case k5 => k_asm); (case kK => first | exact rfl | assumption); (case kd => ktr_room); (case ku => ktr_units); (case kx => with_reducible assumption); (case ko => with_reducible assumption); (case ky => with_reducible assumption); (case kl => with_reducible assumption); (case kL => with_reducible assumption))); intro t9 h9 tk9 F9 N9; (try dsimp only))))
  (k_with "my call ref" => ((k_here; (with_reducible show wpAny _ _ (call (Value.ref 65) [Value.str _ _]) _ _ _); (k_dflt (refine' decode_spec ?k1 ?k2 ?k3 ?k4 ?k5 ?kK ?kd ?ku ?kx ?kL ?_; (case k1 => k_asm); (case k2 => k_asm); (case k3 => k_asm); (case k4 => k_asm); (case k5 => k_asm); (case kK => first | exact rfl | assumption); (case kd => ktr_room); (case ku => ktr_units); (case kx => with_reducible assumption); (case kL => with_reducible assumption))); intro t9 h9 tk9 F9 N9; (try dsimp only))))
  (k_with "my call builtin:str.split" => ((k_here; (with_reducible show wpAny _ _ (call (Value.builtin "str.split") [Value.str _ _, Value.str _ _]) _ _ _); (refine KSpl.split1 (by k_asm) (by k_asm) (by with_reducible assumption) ?_ (by size_fits)); intro D9 l9 h9 k9 e9 a9 F9 N9 l1; have hsz9 := split_size e9 (by assumption); (try k_lt l1))))
  (k_with "my eval ListComp" => ((k_here; k_dflt (refine LCg.ListComp_U (F₀ := by k_asm) (by rfl) (by decide) (by rfl) (by decide) (by rfl) ?_))))
  (k_with "my CompSrc" => ((k_here; k_dflt ((refine LCg.CompSrc.ledger (by rfl) (by k_asm) (by k_asm) (by k_mem) (by assumption) ?_; intro g'; refine HoldC.out ?_)))))
  trivial
theorem letter_spec {x y : Str} {t u v : Tok} {k : Int} {toks : Str → List (Nat × Bool) × Bool}
    (hdp : dp + 4 < recursionLimit) (hu : un + 32 < cLine) (hx : x.length ≤ 150) (hok : ∀ c ∈ x.cps.toList, okc c = true) (hy : y.length ≤ 2) (hye : (y.length == 0) = false) (hkl : 4 ≤ k ∧ k ≤ 1000)
    (hlines : ∀ y ∈ Txt.lines ⟨(x.cps.toList.flatMap tr).toArray⟩, LineOk k y)
    (hz : (encT k y x).length ≤ 600) (hL : ∀ z ∈ Txt.lines (encT k y x), LineTk z (toks z).1 (toks z).2 ∧ Txt.rstrip z = z)
    (hdec : (decT (encT k y x) ((Txt.lines (encT k y x)).flatMap fun y => decOf (toks y).1 (toks y).2) != x) = false)
    (hret : ∀ h' tk' vs D kk, IntsAre vs ((Txt.split (encT k y x) y).map fun z => (z.length : Int)) → Fr h₀ L h' m → News h₀ L h' ((D, listOf vs.toArray kk) :: news) → Q (.ref D) { s with heap := h', toks := tk' }) :
    wpAny (model PySem.Challenge.rw_ik0034_01.row.prog w) (ktrTop dp un gd cn cs L a ccd cl outer) (call (.ref 131) [.str x t, .int k u, .str y v]) Q E s := by
  refine wpAny_call ?_
  k_dflt (k_extra "my_enter")
  have hne : (encT k y x != encT k y x) = false := by simp
  k_steps
  rename List (Str × Tok) => l9
  rename List.map _ _ = Txt.split _ _ => e9
  refine HoldC.mk (comp_go (fun i ys => IntsAre ys (((l9.map (·.1)).take i).map fun y => (y.length : Int))) .nil (Or.inr ⟨_, List.mem_cons_self, rfl, _, rfl⟩) ?turn ?fin)
  case turn =>
    intro i v ys I oI C oC D m₂ h tk E' hi hv hy hC hx F N off ne
    obtain ⟨y1, t1, rfl, hm, hend⟩ := lens_inv hv hy (f := fun y => (y.length : Int))
    have hs1 : y1.length ≤ 600 := Nat.le_trans (part_short (e9 ▸ hm)) hz
    k_steps
    exact turn_end (by assumption) (by assumption) (fun p hp => hp) (hend _)
  case fin =>
    intro ys hy
    have ht : ((l9.map (·.1)).take (strValues l9).toArray.size) = Txt.split (encT k y x) y := by
      rw [List.take_of_length_le (by rw [List.size_toArray]; unfold strValues; simp), e9]
    rw [ht] at hy
    k_steps
    rename News _ _ _ ((_, LCg.lst _) :: _ :: _ :: _) => NZ
    exact hret _ _ _ _ _ hy (by assumption) (cb_drop NZ fun p hp => by
      rcases List.mem_cons.mp hp with rfl | hp
      · exact List.mem_cons_self
      · exact List.mem_cons_of_mem _ (List.mem_cons_of_mem _ (List.mem_cons_of_mem _ hp)))
end
end TextE3
end Mine
namespace Mine
section TextE4
set_option maxRecDepth 100000
set_option maxHeartbeats 1000000
theorem fill8 (w : World) (h : Heap) : (hd.heap_39 w.params).In h → PySem.Challenge.rw_ik0034_01 = PySem.Challenge.rw_ik0034_01 := by
  k_fill
  intro _; rfl
section
variable {w : World} {mean : ExcName → Option Value} {mg mb : Str → Option Value} {dp un : Nat} {gd : Option (List Code)} {cn : Str} {cs : Scope} {a : Addr} {ccd : Value} {cl : List (Str × Addr)} {A₀ : Around} {base h₀ : Heap} {L : Addr} {m : Str → Option Value} {news : List (Addr × Obj)} {s : Shared}
    {Q E : Value → Shared → Prop}
    (B : Below A₀ base [] h₀) (F : Fr h₀ L s.heap m) (X : (hd.heap_39 w.params).In h₀) (N : News h₀ L s.heap news) (T : Top hd.view_39 Lo mean mg mb h₀) (hk : cs.kind = .function)
include B F X N T hk
theorem words_10 : True := by
  k_with_none
  (k_with "ne" => (first | k_extra "ne0" | k_extra "ne1"))
  (k_with "ne0" => (with_reducible first | assumption | exact Nat.succ_ne_self _ | exact (Nat.succ_ne_self _).symm | exact ne_off2 | exact ne_off2.symm | exact ne_off3 | exact ne_off3.symm | exact ne_off4 | exact ne_off4.symm | exact ne_off5 | exact ne_off5.symm))
  (k_with "ne1" => (((with_reducible rename _ ∧ _ => h9); first | (with_reducible first | exact h9.1.symm | exact Nat.ne_of_gt h9.1 | exact h9.1 | exact Nat.ne_of_lt h9.1 | exact h9.2.1.symm | exact Nat.ne_of_gt h9.2.1 | exact h9.2.1 | exact Nat.ne_of_lt h9.2.1 | exact h9.2.2.1.symm | exact Nat.ne_of_gt h9.2.2.1 | exact h9.2.2.1 | exact Nat.ne_of_lt h9.2.2.1 | exact h9.2.2.2.1.symm | exact Nat.ne_of_gt h9.2.2.2.1 | exact h9.2.2.2.1 | exact Nat.ne_of_lt h9.2.2.2.1 | exact h9.2.2.2.2.1.symm | exact Nat.ne_of_gt h9.2.2.2.2.1 | exact h9.2.2.2.2.1 | exact Nat.ne_of_lt h9.2.2.2.2.1 | exact h9.2.2.2.2.2.1.symm | exact Nat.ne_of_gt h9.2.2.2.2.2.1 | exact h9.2.2.2.2.2.1 | exact Nat.ne_of_lt h9.2.2.2.2.2.1 | exact h9.2.2.2.2.2.2.1.symm | exact Nat.ne_of_gt h9.2.2.2.2.2.2.1 | exact h9.2.2.2.2.2.2.1 | exact Nat.ne_of_lt h9.2.2.2.2.2.2.1 | exact h9.2.2.2.2.2.2.2.1.symm | exact Nat.ne_of_gt h9.2.2.2.2.2.2.2.1 | exact h9.2.2.2.2.2.2.2.1 | exact Nat.ne_of_lt h9.2.2.2.2.2.2.2.1 | exact h9.2.2.2.2.2.2.2.2.1.symm | exact Nat.ne_of_gt h9.2.2.2.2.2.2.2.2.1 | exact h9.2.2.2.2.2.2.2.2.1 | exact Nat.ne_of_lt h9.2.2.2.2.2.2.2.2.1 | exact h9.2.2.2.2.2.2.2.2.2.1.symm | exact Nat.ne_of_gt h9.2.2.2.2.2.2.2.2.2.1 | exact h9.2.2.2.2.2.2.2.2.2.1 | exact Nat.ne_of_lt h9.2.2.2.2.2.2.2.2.2.1 | exact h9.2.2.2.2.2.2.2.2.2.2.1.symm | exact Nat.ne_of_gt h9.2.2.2.2.2.2.2.2.2.2.1 | exact h9.2.2.2.2.2.2.2.2.2.2.1 | exact Nat.ne_of_lt h9.2.2.2.2.2.2.2.2.2.2.1 | exact h9.2.2.2.2.2.2.2.2.2.2.2.1.symm | exact Nat.ne_of_gt h9.2.2.2.2.2.2.2.2.2.2.2.1 | exact h9.2.2.2.2.2.2.2.2.2.2.2.1 | exact Nat.ne_of_lt h9.2.2.2.2.2.2.2.2.2.2.2.1 | exact h9.2.2.2.2.2.2.2.2.2.2.2.2.1.symm | exact Nat.ne_of_gt h9.2.2.2.2.2.2.2.2.2.2.2.2.1 | exact h9.2.2.2.2.2.2.2.2.2.2.2.2.1 | exact Nat.ne_of_lt h9.2.2.2.2.2.2.2.2.2.2.2.2.1 | exact h9.2.2.2.2.2.2.2.2.2.2.2.2.2.1.symm | exact Nat.ne_of_gt h9.2.2.2.2.2.2.2.2.2.2.2.2.2.1 | exact h9.2.2.2.2.2.2.2.2.2.2.2.2.2.1 | exact Nat.ne_of_lt h9.2.2.2.2.2.2.2.2.2.2.2.2.2.1 | exact h9.2.2.2.2.2.2.2.2.2.2.2.2.2.2.1.symm | exact Nat.ne_of_gt h9.2.2.2.2.2.2.2.2.2.2.2.2.2.2.1 | exact h9.2.2.2.2.2.2.2.2.2.2.2.2.2.2.1 | exact Nat.ne_of_lt h9.2.2.2.2.2.2.2.2.2.2.2.2.2.2.1 | exact h9.2.2.2.2.2.2.2.2.2.2.2.2.2.2.2.1.symm | exact Nat.ne_of_gt h9.2.2.2.2.2.2.2.2.2.2.2.2.2.2.2.1 | exact h9.2.2.2.2.2.2.2.2.2.2.2.2.2.2.2.1 | exact Nat.ne_of_lt h9.2.2.2.2.2.2.2.2.2.2.2.2.2.2.2.1) | (clear h9; k_extra "ne1"))))
  (k_with "my_enter" => ((refine' code_def ?k1 ?k2 ?k3 ?k4 ?k5 ?kA ?kF ?kK ?k6 ?k7 ?k8 ?k9 ?kB ?_ ?c2 ?c3 ?c4 ?c5; (case kA => exact rfl); (case kF => exact rfl); (case kK => first | exact rfl | assumption); (case k1 => k_asm); (case k2 => k_asm); (case k3 => k_asm); (case k4 => k_asm); (case k5 => k_asm); (case k6 => k_is); (case k7 => k_is); (case k8 => ktr_room); (case k9 => first | exact BindsTo.of_eq rfl | exact binds_K (by k_in) rfl (by k_is) rfl rfl rfl); (case c5 => decide); (case kB => exact locs rfl); (case c2 => exact rfl); (case c3 => exact rfl); (case c4 => exact rfl); k_whole; intro g' L' h' FG' F' N' B' X' T'; (try dsimp only); (try k_lift B'); (try k_fold))))
  (k_with "my_enterM" => (((refine' kp_more ?k1 ?k2 ?k3 ?k4 ?k5 ?kA ?kF ?kK ?k6 ?k7 ?k8 ?kX ?kM ?kN ?kD ?kR ?kP ?kT ?kB ?_ ?c2 ?c3 ?c4 ?c5; (case kA => exact rfl); (case kF => exact rfl); (case kK => first | exact rfl | assumption); (case k1 => k_asm); (case k2 => k_asm); (case k3 => k_asm); (case k4 => k_asm); (case k5 => k_asm); (case k6 => k_is); (case k7 => k_is); (case k8 => ktr_room); (case kX => kp_lit); (case kM => exact rfl); (case kN => exact rfl); (case kD => kp_flats); (case kR => exact rfl); (case kP => exact rfl); (case kT => exact fun _ => rfl); (case kB => exact fun _ => locs rfl); (case c5 => decide); (case c2 => exact rfl); (case c3 => exact rfl); (case c4 => exact rfl); k_whole; intro D' o' g' L' h' tk' l1 lo' hs' fs' FG' F' N' B' X' T'; (try k_lt l1); (try dsimp only); (try k_lift B'); (try k_fold)))))
  (k_with "my callWith ref" => ((k_here; (with_reducible show wpAny _ _ (callWith _ (Value.ref 57) [] _ (backToKw _ (keywordEach [⟨none, _, _⟩] _))) _ _ _); (refine' callWith_KWM ?k1 ?k2 ?kX ?kI ?km ?kc ?kd ?kD ?kk ?kx ?_; (case k1 => k_asm); (case k2 => k_asm); (case kX => assumption); (case kI => k_is); (case km => exact List.mem_cons_self); (case kc => with_reducible assumption); (case kd => with_reducible assumption); (case kD => with_reducible assumption); (case kk => decide +kernel); (case kx => (intro s' R F9 N9 hR; k_steps; exact hR))))))
  (k_with "my call ref" => ((k_here; (with_reducible show wpAny _ _ (call (Value.ref 95) [Value.str _ _, Value.ref 57] _) _ _ _); refine wpAny_call ?_; k_dflt (k_extra "my_enterM"); rename Obj.IsDictOf _ _ _ => hs; obtain ⟨g1, u1, g2, u2, n0, hc0, hd0⟩ := dict2 hs)))
  (k_with "my call ref" => ((k_here; (with_reducible show wpAny _ _ (call (Value.ref 57) _ _) _ _ _); refine wpAny_call ?_; k_dflt (k_extra "my_enter"))))
  trivial
theorem letter3_spec {x y : Str} {t u v : Tok}
    (hdp : dp + 4 < recursionLimit) (hu : un + 32 < cLine)
    (XB : (hd.heap_39 w.params).In base) (TB : Top hd.view_39 Lo mean mg mb base)
    (hret : ∀ h' tk', Fr h₀ L h' m → News h₀ L h' news → Q .none { s with heap := h', toks := tk' }) :
    wpAny (model PySem.Challenge.rw_ik0034_01.row.prog w) (ktrTop dp un gd cn cs L a ccd cl []) (call (.ref 131) [.str x t, .int 3 u, .str y v]) Q E s := by
  refine wpAny_call ?_
  k_dflt (refine' code_turn ?k1 ?k2 ?k3 ?k4 ?k5 ?kA ?kF ?kK ?k6 ?k7 ?k8 ?k9 ?kB ?_ ?c2 ?c3 ?c4 ?c5; (case kA => exact rfl); (case kF => exact rfl); (case kK => first | exact rfl | assumption); (case k1 => k_asm); (case k2 => k_asm); (case k3 => k_asm); (case k4 => k_asm); (case k5 => k_asm); (case k6 => k_is); (case k7 => k_is); (case k8 => ktr_room); (case k9 => first | exact BindsTo.of_eq rfl | exact binds_K (by k_in) rfl (by k_is) rfl rfl rfl); (case c5 => decide); (case kB => exact locs rfl); (case c2 => exact rfl); (case c3 => exact rfl); (case c4 => exact rfl); k_whole; intro g' L' h' FG' F' N' B' X' T' D'; (try dsimp only); (try k_lift B'); (try k_fold))
  k_steps
  · assumption
  · assumption
  all_goals k_steps
  rename News h₀ L _ (_ :: _) => NZ
  exact hret _ _ (by assumption) (cb_drop NZ fun p hp => List.mem_cons_of_mem _ hp)
end
end TextE4
end Mine
namespace Mine
section TextP1
set_option maxRecDepth 100000
set_option maxHeartbeats 1000000
theorem fill2 (w : World) (h : Heap) : (hd.heap_39 w.params).In h → PySem.Challenge.rw_ik0034_01 = PySem.Challenge.rw_ik0034_01 := by
  k_fill
  intro _; rfl
theorem ints1 {a : Int} {t : Tok} : IntsAre [Value.int a t] [a] := .cons _ _ .nil
theorem ints2 {a b : Int} {t u : Tok} : IntsAre [Value.int a t, Value.int b u] [a, b] := .cons _ _ (.cons _ _ .nil)
noncomputable def partsT (x : Str) (k n : Int) : List Int :=
  if k < n then [k]
  else if (Builtin.Str.occurrences (Str.ofString " \t") (Txt.item x (-1)) 0 (Str.ofString " \t").length 1).isEmpty = false then [k - 1, 0]
  else if (List.map sgn (Txt.item x (-1)).cps.toList).sum = 1 then [k + 1 - (List.map sgn (Txt.slice x (some (-2)) none).cps.toList).sum, (List.map sgn (Txt.slice x (some (-2)) none).cps.toList).sum]
  else [k + 1 - (List.map sgn (Txt.item x (-1)).cps.toList).sum, (List.map sgn (Txt.item x (-1)).cps.toList).sum]
theorem lt_of_alls {d : Addr} : ∀ {l : List (Addr × Obj)}, AllLt d l → ∀ p ∈ l, p.1 < d
  | [], _, _, h => nomatch h
  | _ :: _, h, p, hp => by
    rcases List.mem_cons.mp hp with rfl | hp
    · exact h.1
    · exact lt_of_alls h.2 p hp
theorem parts_two (x : Str) (k n : Int) : (partsT x k n).length ≤ 2 := by
  unfold partsT
  repeat' split
  all_goals simp
section
variable {w : World} {mean : ExcName → Option Value} {mg mb : Str → Option Value} {dp un : Nat} {gd : Option (List Code)} {cn : Str} {cs : Scope} {a : Addr} {ccd : Value} {cl : List (Str × Addr)} {outer : List Env} {A₀ : Around} {base h₀ : Heap} {L : Addr} {m : Str → Option Value} {news : List (Addr × Obj)} {s : Shared}
    {Q E : Value → Shared → Prop}
    (B : Below A₀ base outer h₀) (F : Fr h₀ L s.heap m) (X : (hd.heap_39 w.params).In h₀) (N : News h₀ L s.heap news) (T : Top hd.view_39 Lo mean mg mb h₀) (hk : cs.kind = .function)
include B F X N T hk

theorem words_11 : True := by
  k_with_none
  (k_with "ne" => (first | k_extra "ne0" | k_extra "ne1"))
  (k_with "ne0" => (with_reducible first | assumption | exact Nat.succ_ne_self _ | exact (Nat.succ_ne_self _).symm | exact ne_off2 | exact ne_off2.symm | exact ne_off3 | exact ne_off3.symm | exact ne_off4 | exact ne_off4.symm | exact ne_off5 | exact ne_off5.symm))
  (k_with "ne1" => (((with_reducible rename _ ∧ _ => h9); first | (with_reducible first | exact h9.1.symm | exact Nat.ne_of_gt h9.1 | exact h9.1 | exact Nat.ne_of_lt h9.1 | exact h9.2.1.symm | exact Nat.ne_of_gt h9.2.1 | exact h9.2.1 | exact Nat.ne_of_lt h9.2.1 | exact h9.2.2.1.symm | exact Nat.ne_of_gt h9.2.2.1 | exact h9.2.2.1 | exact Nat.ne_of_lt h9.2.2.1 | exact h9.2.2.2.1.symm | exact Nat.ne_of_gt h9.2.2.2.1 | exact h9.2.2.2.1 | exact Nat.ne_of_lt h9.2.2.2.1 | exact h9.2.2.2.2.1.symm | exact Nat.ne_of_gt h9.2.2.2.2.1 | exact h9.2.2.2.2.1 | exact Nat.ne_of_lt h9.2.2.2.2.1 | exact h9.2.2.2.2.2.1.symm | exact Nat.ne_of_gt h9.2.2.2.2.2.1 | exact h9.2.2.2.2.2.1 | exact Nat.ne_of_lt h9.2.2.2.2.2.1 | exact h9.2.2.2.2.2.2.1.symm | exact Nat.ne_of_gt h9.2.2.2.2.2.2.1 | exact h9.2.2.2.2.2.2.1 | exact Nat.ne_of_lt h9.2.2.2.2.2.2.1 | exact h9.2.2.2.2.2.2.2.1.symm | exact Nat.ne_of_gt h9.2.2.2.2.2.2.2.1 | exact h9.2.2.2.2.2.2.2.1 | exact Nat.ne_of_lt h9.2.2.2.2.2.2.2.1 | exact h9.2.2.2.2.2.2.2.2.1.symm | exact Nat.ne_of_gt h9.2.2.2.2.2.2.2.2.1 | exact h9.2.2.2.2.2.2.2.2.1 | exact Nat.ne_of_lt h9.2.2.2.2.2.2.2.2.1 | exact h9.2.2.2.2.2.2.2.2.2.1.symm | exact Nat.ne_of_gt h9.2.2.2.2.2.2.2.2.2.1 | exact h9.2.2.2.2.2.2.2.2.2.1 | exact Nat.ne_of_lt h9.2.2.2.2.2.2.2.2.2.1 | exact h9.2.2.2.2.2.2.2.2.2.2.1.symm | exact Nat.ne_of_gt h9.2.2.2.2.2.2.2.2.2.2.1 | exact h9.2.2.2.2.2.2.2.2.2.2.1 | exact Nat.ne_of_lt h9.2.2.2.2.2.2.2.2.2.2.1 | exact h9.2.2.2.2.2.2.2.2.2.2.2.1.symm | exact Nat.ne_of_gt h9.2.2.2.2.2.2.2.2.2.2.2.1 | exact h9.2.2.2.2.2.2.2.2.2.2.2.1 | exact Nat.ne_of_lt h9.2.2.2.2.2.2.2.2.2.2.2.1 | exact h9.2.2.2.2.2.2.2.2.2.2.2.2.1.symm | exact Nat.ne_of_gt h9.2.2.2.2.2.2.2.2.2.2.2.2.1 | exact h9.2.2.2.2.2.2.2.2.2.2.2.2.1 | exact Nat.ne_of_lt h9.2.2.2.2.2.2.2.2.2.2.2.2.1 | exact h9.2.2.2.2.2.2.2.2.2.2.2.2.2.1.symm | exact Nat.ne_of_gt h9.2.2.2.2.2.2.2.2.2.2.2.2.2.1 | exact h9.2.2.2.2.2.2.2.2.2.2.2.2.2.1 | exact Nat.ne_of_lt h9.2.2.2.2.2.2.2.2.2.2.2.2.2.1 | exact h9.2.2.2.2.2.2.2.2.2.2.2.2.2.2.1.symm | exact Nat.ne_of_gt h9.2.2.2.2.2.2.2.2.2.2.2.2.2.2.1 | exact h9.2.2.2.2.2.2.2.2.2.2.2.2.2.2.1 | exact Nat.ne_of_lt h9.2.2.2.2.2.2.2.2.2.2.2.2.2.2.1 | exact h9.2.2.2.2.2.2.2.2.2.2.2.2.2.2.2.1.symm | exact Nat.ne_of_gt h9.2.2.2.2.2.2.2.2.2.2.2.2.2.2.2.1 | exact h9.2.2.2.2.2.2.2.2.2.2.2.2.2.2.2.1 | exact Nat.ne_of_lt h9.2.2.2.2.2.2.2.2.2.2.2.2.2.2.2.1) | (clear h9; k_extra "ne1"))))
  (k_with "my call ref" => ((k_here; (with_reducible show wpAny _ _ (call (Value.ref 119) [Value.str _ _]) _ _ _); (k_dflt (refine' signs_spec ?k1 ?k2 ?k3 ?k4 ?k5 ?kK ?kd ?ku ?kx ?_; (case k1 => k_asm); (case k2 => k_asm); (case k3 => k_asm); (case k4 => k_asm); (case k5 => k_asm); (case kK => first | exact rfl | assumption); (case kd => ktr_room); (case ku => ktr_units); (case kx => first | assumption | size_fits | (simp; done)))); intro t9 h9 tk9 F9 N9; (try dsimp only))))
  trivial

theorem parts_spec {x : Str} {t u v : Tok} {k n : Int} 
    (hdp : dp + 2 < recursionLimit) (hu : un + 16 < cLine) (hx2 : k < n ∨ 2 ≤ x.length) (hx : x.length ≤ 1000) (hk : k ≤ n) (hkl : 0 ≤ k ∧ k ≤ 1000) (hnl : 0 ≤ n ∧ n ≤ 1000)
    (hret : ∀ h' tk' vs D kk, IntsAre vs (partsT x k n) → Fr h₀ L h' m → News h₀ L h' ((D, listOf vs.toArray kk) :: news) → (∀ p ∈ news, p.1 < D) → Q (.ref D) { s with heap := h', toks := tk' }) :
    wpAny (model PySem.Challenge.rw_ik0034_01.row.prog w) (ktrTop dp un gd cn cs L a ccd cl outer) (call (.ref 126) [.str x t, .int k u, .int n v]) Q E s := by
  rcases hx2 with hlt | hx2
  all_goals
    refine wpAny_call ?_
    k_dflt ktr_enter
    k_steps
  all_goals (try (exfalso; omega))
  all_goals (rename News h₀ L _ (_ :: _) => NZ; rename Fr h₀ L _ _ => FZ)
  all_goals
    refine hret _ _ _ _ _ ?_ FZ NZ ?_
    rotate_left
    · first | assumption | exact lt_of_alls (by assumption)
    unfold partsT
    first
      | (rw [if_pos (by assumption)]; exact ints1)
      | (rw [if_neg (by assumption), if_pos (by assumption)]; exact ints2)
      | (rw [if_neg (by assumption), if_neg (by simp only [*]; decide), if_pos (by assumption)]; exact ints2)
      | (rw [if_neg (by assumption), if_neg (by simp only [*]; decide), if_neg (by assumption)]; exact ints2)
end
end TextP1
end Mine
namespace Mine
section TextE5
set_option maxRecDepth 100000
set_option maxHeartbeats 1000000
theorem fillE52 (w : World) (h : Heap) : (hd.heap_39 w.params).In h → PySem.Challenge.rw_ik0034_01 = PySem.Challenge.rw_ik0034_01 := by
  k_fill
  intro _; rfl
noncomputable def numDat : Option Int → Dat
  | none => .none
  | some n => .int n
noncomputable def rowDat (r : Option Int × Str) : Dat := .tuple [numDat r.1, .str r.2]
structure RowOf (total x : Int) (r : Option Int × Str) : Prop where
  len : (r.2.length : Int) = x.fmod 6
  sign : ∀ c ∈ r.2.cps.toList, c = 97 ∨ c = 61 ∨ c = 32 ∨ c = 9 ∨ c = 233
  num : ∀ n, r.1 = some n → 1 ≤ n ∧ n ≤ 1000100
  bare : total.fmod 5 = 4 → r.1 = none
  first : x = 8 → total.fmod 5 ≠ 4 → r.1 ≠ none
noncomputable def RowsOf (total : Int) (xs : List Int) (rows : List (Option Int × Str)) : Prop := ∀ (j : Nat) (x : Int) (r : Option Int × Str), xs[j]? = some x → rows[j]? = some r → RowOf total x r
structure LS where
  its : List Value
  nl : Nat
  oc : Obj
  rows : List (Option Int × Str)
noncomputable def LsFacts (l : List (Addr × Obj)) (c : LS) : Prop := DatAll l c.its (c.rows.map rowDat) ∧ ∃ cv, c.oc.data = .cell cv
noncomputable def LsP (total : Int) (pre : List Int) (c : LS) : Prop := c.rows.length = pre.length ∧ RowsOf total pre c.rows
theorem five_pow {a : Int} (h0 : 0 ≤ a) (h6 : a < 6) : (5 : Int) ^ a.toNat ≠ 0 ∧ ((5 : Int) ^ a.toNat).natAbs < 1073741824 := by
  have h : a.toNat = 0 ∨ a.toNat = 1 ∨ a.toNat = 2 ∨ a.toNat = 3 ∨ a.toNat = 4 ∨ a.toNat = 5 := by omega
  rcases h with h | h | h | h | h | h <;> rw [h] <;> decide
noncomputable def SignOk (y : Str) : Prop := y.length = 1 ∧ ∀ c ∈ y.cps.toList, c = 97 ∨ c = 61 ∨ c = 32 ∨ c = 9 ∨ c = 233
theorem sign_item {e : Int} (h0 : 0 ≤ e) (h5 : e < 5) : SignOk (Txt.item (Str.ofString "a= \té") e) := by
  have h : e = 0 ∨ e = 1 ∨ e = 2 ∨ e = 3 ∨ e = 4 := by omega
  unfold SignOk
  rcases h with h | h | h | h | h <;> subst h <;> decide +kernel
theorem join_nil : ∀ l : List Str, (Txt.join (Str.ofString "") l).cps.toList = l.flatMap (fun y => y.cps.toList) := by
  intro l
  show (Builtin.Str.glued (Str.ofString "") l).cps.toList = _
  rw [StrLaws.glued_eq_join]
  induction l with
  | nil => rfl
  | cons x r ih =>
    cases r with
    | nil => show x.cps.toList = _; simp
    | cons y r =>
      show (x ++ Str.ofString "" ++ Str.join (Str.ofString "") (y :: r)).cps.toList = _
      have ap : ∀ a b : Str, (a ++ b).cps.toList = a.cps.toList ++ b.cps.toList := fun a b => by
        show (a.cps ++ b.cps).toList = _
        simp
      rw [ap, ap, ih]
      have e : (Str.ofString "").cps.toList = [] := by decide +kernel
      rw [e, List.append_nil]
      rfl
theorem join_signs {l : List Str} (h : ∀ y ∈ l, SignOk y) : (Txt.join (Str.ofString "") l).length = l.length ∧ ∀ c ∈ (Txt.join (Str.ofString "") l).cps.toList, c = 97 ∨ c = 61 ∨ c = 32 ∨ c = 9 ∨ c = 233 := by
  constructor
  · show (Txt.join (Str.ofString "") l).cps.size = _
    rw [← Array.length_toList, join_nil]
    induction l with
    | nil => rfl
    | cons x r ih =>
      have := (h x List.mem_cons_self).1
      have e : x.cps.toList.length = 1 := by rw [Array.length_toList]; exact this
      rw [List.flatMap_cons, List.length_append, e, ih fun y hy => h y (List.mem_cons_of_mem _ hy), List.length_cons]
      omega
  · rw [join_nil]
    intro c hc
    obtain ⟨y, hy, hc⟩ := List.mem_flatMap.mp hc
    exact (h y hy).2 c hc
theorem signs_sum {l : List Str} (h : ∀ y ∈ l, SignOk y) : (l.map (·.length)).sum = l.length := by
  induction l with
  | nil => rfl
  | cons x r ih => rw [List.map_cons, List.sum_cons, (h x List.mem_cons_self).1, ih fun y hy => h y (List.mem_cons_of_mem _ hy), List.length_cons]; omega
theorem join_room {ls : List (Str × Tok)} (h : ∀ y ∈ ls.map (·.1), SignOk y) (hl : ls.length ≤ 100) : ((ls.map (·.1)).map (·.length)).sum + (ls.length + 1) * (Str.ofString "").length ≤ 16777216 := by
  rw [signs_sum h, List.length_map, show (Str.ofString "").length = 0 from by decide +kernel]
  omega
theorem sign_snoc {ls : List (Str × Tok)} {y : Str} {t : Tok} (h : ∀ y ∈ ls.map (·.1), SignOk y) (hy : SignOk y) : ∀ z ∈ (ls ++ [(y, t)]).map (·.1), SignOk z := by
  intro z hz
  rw [List.map_append] at hz
  rcases List.mem_append.mp hz with hz | hz
  · exact h z hz
  · rw [List.mem_singleton.mp hz]; exact hy
theorem strs_snoc {ls : List (Str × Tok)} {y : Str} {t : Tok} : strValues ls ++ [.str y t] = strValues (ls ++ [(y, t)]) := by simp [strValues]
noncomputable abbrev LsLed (lD cA : Addr) (c : LS) : List (Addr × Obj) := [(lD, listOf c.its.toArray c.nl), (cA, c.oc)]
noncomputable abbrev LlSt : List Str := [Str.ofString "size", Str.ofString "text", Str.ofString "bare"]
theorem lt_of_all {d : Addr} : ∀ {l : List (Addr × Obj)}, AllLt d l → ∀ p ∈ l, p.1 < d
  | [], _, _, h => nomatch h
  | _ :: _, h, p, hp => by
    rcases List.mem_cons.mp hp with rfl | hp
    · exact h.1
    · exact lt_of_all h.2 p hp
theorem lt_of_and {a d : Nat} {l : List (Addr × Obj)} (h : @LT.lt Nat _ a d ∧ AllLt d l) : ∀ p ∈ l, p.1 < d := lt_of_all h.2
theorem lines_loop {prog : Program} {w : World} {A : Around} {E : Value → Shared → Prop} {s : Shared} {env : Env} {h₀ : Heap} {x : Str} {body : List Stmt} {Q : Flow → Shared → Prop} {D lD cA D1 D2 : Addr} {o1 o2 oc : Obj} {ws : List Value} {xs : List Int} {m₀ : Str → Option Value} {news : List (Addr × Obj)} {cv : Option Value} (total : Int)
    (hI : IntsAre ws xs) (F : Fr h₀ env.locals s.heap m₀) (N : News h₀ env.locals s.heap ((D, listOf ws.toArray 0) :: (D1, o1) :: (D2, o2) :: (lD, listOf #[] 0) :: (cA, oc) :: news)) (hd : oc.data = .cell cv) (hh : A.handled = none) (g1 : ∀ p ∈ news, p.1 < lD) (g2 : ∀ p ∈ news, p.1 < cA)
    (turn : ∀ (c : LS) tl pre post n t (u : Str → Option Value) h tk own, xs = pre ++ n :: post → n ∈ xs → (∀ p ∈ news ++ (tl ++ own), p.1 ≠ lD) → (∀ p ∈ news ++ (tl ++ own), p.1 ≠ cA) → KdSep own tl (lD :: cA :: D :: news.map (·.1)) → OwnOff (tl ++ own) (lD :: cA :: D :: news.map (·.1)) → LsFacts (((D, listOf ws.toArray 0) :: news) ++ tl) c → LsP total pre c →
      Fr h₀ env.locals h (fun y => if y = x then some (.int n t) else (fun z => if LlSt.contains z then u z else m₀ z) y) → News h₀ env.locals h ((lD, listOf c.its.toArray c.nl) :: (cA, c.oc) :: (D, listOf ws.toArray 0) :: (news ++ (tl ++ own))) →
      wpAny (model prog w) A (execs body env) (InvPostG h₀ env.locals (KdS (LsLed lD cA) ((D, listOf ws.toArray 0) :: news) (fun _ => []) LsFacts x LlSt m₀ (LsP total) (lD :: cA :: D :: news.map (·.1)) (pre ++ [n])) own { s with heap := h, toks := tk } Q) E { s with heap := h, toks := tk })
    (done : ∀ (c : LS) tl (u : Str → Option Value) h tk, OwnOff tl (lD :: cA :: D :: news.map (·.1)) → LsFacts (((D, listOf ws.toArray 0) :: news) ++ tl) c → LsP total xs c → Fr h₀ env.locals h (fun y => if y = x then u y else (fun z => if LlSt.contains z then u z else m₀ z) y) → News h₀ env.locals h ((lD, listOf c.its.toArray c.nl) :: (cA, c.oc) :: (D, listOf ws.toArray 0) :: (news ++ tl)) → Q .next { s with heap := h, toks := tk }) :
    wpAny (model prog w) A (pyIter (.ref D)) (fun it s₂ => LoopAtV prog w A h₀ env x body Q E it s₂) E s := by
  refine kd_listI (σ := LS) (LsLed lD cA) ((D, listOf ws.toArray 0) :: news) (fun _ => []) LsFacts LlSt (LsP total) (lD :: cA :: D :: news.map (·.1)) ⟨[], 0, oc, []⟩ hh List.mem_cons_self hI F N ?hn (fun _ => rfl) ⟨.nil, _, hd⟩ (fun _ h => nomatch h) ⟨rfl, fun j x r h _ => nomatch h⟩ (fun c tl pre post n t u h tk own e1 e2 sp off => turn c tl pre post n t u h tk own e1 e2 ?_ ?_ sp off) (fun c tl u h tk hoff => done c tl u h tk hoff)
  rotate_left
  · intro p hp
    rcases List.mem_append.mp hp with hp | hp
    · exact Nat.ne_of_lt (g1 p hp)
    · exact off p hp _ List.mem_cons_self
  · intro p hp
    rcases List.mem_append.mp hp with hp | hp
    · exact Nat.ne_of_lt (g2 p hp)
    · exact off p hp _ (List.mem_cons_of_mem _ List.mem_cons_self)
  intro p hp
  simp only [List.append_nil, LsLed, List.cons_append, List.nil_append, List.mem_cons] at hp ⊢
  rcases hp with hp | hp | hp | hp <;> simp [hp]
theorem num_room (a : Int) (k : Nat) (hk : k ≤ 8) : 1 ≤ 1 + a.fmod (10 ^ Int.toNat 6) + (k : Int) ∧ 1 + a.fmod (10 ^ Int.toNat 6) + (k : Int) ≤ 1000100 := by
  have h1 := Int.fmod_nonneg_of_pos a (b := 10 ^ Int.toNat 6) (by decide)
  have h2 := Int.fmod_lt_of_pos a (b := 10 ^ Int.toNat 6) (by decide)
  have h3 : (10 : Int) ^ Int.toNat 6 = 1000000 := by decide
  rw [h3] at h1 h2 ⊢
  omega
theorem news_order {h₀ h : Heap} {L : Addr} {a b d : Addr × Obj} {news tl : List (Addr × Obj)} (N : News h₀ L h (a :: b :: d :: (news ++ tl))) : News h₀ L h (a :: ((b :: d :: tl) ++ news)) := by
  refine cb_drop N fun p hp => ?_
  simp only [List.mem_cons, List.mem_append, List.cons_append] at hp ⊢
  rcases hp with hp | hp | hp | hp | hp <;> simp [hp]
theorem dat_order {b d : Addr × Obj} {news tl : List (Addr × Obj)} {vs : List Value} {ds : List Dat} (h : DatAll ((d :: news) ++ tl) vs ds) : DatAll ((b :: d :: tl) ++ news) vs ds := by
  refine DatAll.mono (fun p hp => ?_) h
  simp only [List.mem_cons, List.mem_append, List.cons_append] at hp ⊢
  rcases hp with hp | hp | hp <;> simp [hp]
theorem rows_snoc {total : Int} {pre : List Int} {n : Int} {rows : List (Option Int × Str)} {r : Option Int × Str} (hl : rows.length = pre.length) (h : RowsOf total pre rows) (hr : RowOf total n r) : RowsOf total (pre ++ [n]) (rows ++ [r]) := by
  intro j x q hx hq
  by_cases hj : j < pre.length
  · rw [List.getElem?_append_left hj] at hx
    rw [List.getElem?_append_left (by omega)] at hq
    exact h j x q hx hq
  · rw [List.getElem?_append_right (by omega)] at hx
    rw [List.getElem?_append_right (by omega), hl] at hq
    have e : j - pre.length = 0 := by
      rcases Nat.eq_zero_or_pos (j - pre.length) with e | e
      · exact e
      · rw [List.getElem?_eq_none (by simp; omega)] at hx; cases hx
    rw [e] at hx hq
    cases hx
    cases hq
    exact hr
theorem lines_end {h₀ : Heap} {L T G lD cA D : Addr} {oc' oG oD : Obj} {x z : Str} {tj : Tok} {its : List Value} {nl : Nat} {rows : List (Option Int × Str)} {pre : List Int} {n total : Int} {num : Option Int} {numV : Value} {m₀ m' : Str → Option Value} {news tl own : List (Addr × Obj)} {s₁ : Shared} {h' : Heap} {tk : Nat} {cv : Option Value}
    (h0 : KdSep own tl (lD :: cA :: D :: news.map (·.1))) (F : Fr h₀ L h' m')
    (N : News h₀ L h' ((T, { cls := .type "tuple", data := .seq #[numV, .str z tj] }) :: (G, oG) :: (lD, listOf (its.toArray.push (.ref T)) (nl + 1)) :: (cA, oc') :: (D, oD) :: (news ++ (tl ++ own))))
    (hT : @LT.lt Nat _ G T ∧ @LT.lt Nat _ lD T ∧ @LT.lt Nat _ cA T ∧ @LT.lt Nat _ D T ∧ AllLt T (news ++ (tl ++ own))) (hd : oc'.data = .cell cv) (hda : DatAll (((D, oD) :: news) ++ tl) its (rows.map rowDat)) (hl : rows.length = pre.length) (hro : RowsOf total pre rows)
    (hnum : ∀ news, DatIn news numV (numDat num)) (hrow : RowOf total n (num, z)) (hr : ∀ z, z ≠ x → LlSt.contains z = false → m' z = m₀ z) :
    InvEndG h₀ L (KdS (LsLed lD cA) ((D, oD) :: news) (fun _ => []) LsFacts x LlSt m₀ (LsP total) (lD :: cA :: D :: news.map (·.1)) (pre ++ [n])) own s₁ { s₁ with heap := h', toks := tk } := by
  obtain ⟨_, t1, t2, t3, t4⟩ := hT
  have t5 := lt_of_all t4
  refine kd_end (⟨its ++ [.ref T], nl + 1, oc', rows ++ [(num, z)]⟩ : LS) [(T, { cls := .type "tuple", data := .seq #[numV, .str z tj] })] h0 F N ?_ ?_ rfl ?_ ?_ (fun _ h => nomatch h) (fun z h1 _ h2 => hr z h1 h2) ⟨?_, _, hd⟩ ⟨by simp [hl], rows_snoc hl hro hrow⟩
  · intro p hp
    simp only [LsLed, List.cons_append, List.nil_append, List.mem_cons, List.mem_append, List.push_toArray] at hp ⊢
    rcases hp with hp | hp | hp | hp | hp | hp
    · exact .inr (.inr (.inl hp))
    · exact .inr (.inr (.inr (.inl hp)))
    · exact .inr (.inr (.inr (.inr (.inl hp))))
    · exact .inr (.inr (.inr (.inr (.inr (.inl hp)))))
    · exact .inl hp
    · exact .inr (.inr (.inr (.inr (.inr (.inr (.inl hp))))))
  · intro p hp
    simp only [List.mem_cons, List.mem_append]
    exact .inr (.inr (.inr (.inr (.inr (.inr (.inr hp))))))
  · intro q hq b hb
    rw [List.mem_singleton.mp hq]
    refine Nat.ne_of_lt (?_ : b < T)
    rcases List.mem_cons.mp hb with rfl | hb
    · exact t1
    rcases List.mem_cons.mp hb with rfl | hb
    · exact t2
    rcases List.mem_cons.mp hb with rfl | hb
    · exact t3
    obtain ⟨p, hp, rfl⟩ := List.mem_map.mp hb
    exact t5 p (List.mem_append_left _ hp)
  · intro q hq p hp
    rw [List.mem_singleton.mp hq]
    exact Nat.ne_of_lt (t5 p (List.mem_append_right _ (List.mem_append_right _ hp)))
  · show DatAll _ (its ++ [.ref T]) ((rows ++ [(num, z)]).map rowDat)
    rw [List.map_append]
    refine DatAll.append (DatAll.mono ?_ hda) (DatAll.one (DatIn.tuple (vs := [numV, .str z tj]) (n := 0) ?_ (.cons (hnum _) (.cons (.str z tj) .nil))))
    · intro p hp
      rcases List.mem_append.mp hp with hp | hp
      · exact List.mem_append_left _ hp
      · exact List.mem_append_right _ (List.mem_append_right _ hp)
    · exact List.mem_append_right _ (List.mem_append_left _ List.mem_cons_self)
theorem off_done {tl news : List (Addr × Obj)} {lD L D D1 D2 : Addr} {oc od : Obj} (h : OwnOff tl (lD :: (L + 1) :: D :: news.map (·.1))) (hL : ∀ p ∈ news, p.1 < L) (hD : @LT.lt Nat _ D1 D ∧ @LT.lt Nat _ D2 D ∧ @LT.lt Nat _ lD D ∧ @LT.lt Nat _ (L + 1) D ∧ AllLt D news) :
    OwnOff ((L + 1, oc) :: (D, od) :: tl) (news.map (·.1)) := by
  intro p hp b hb
  obtain ⟨q, hq, rfl⟩ := List.mem_map.mp hb
  rcases List.mem_cons.mp hp with rfl | hp
  · exact Nat.ne_of_gt (Nat.lt_succ_of_lt (hL q hq))
  · rcases List.mem_cons.mp hp with rfl | hp
    · exact Nat.ne_of_gt (lt_of_all hD.2.2.2.2 q hq)
    · exact h p hp q.1 (List.mem_cons_of_mem _ (List.mem_cons_of_mem _ (List.mem_cons_of_mem _ hb)))
section
variable {w : World} {mean : ExcName → Option Value} {mg mb : Str → Option Value} {dp un : Nat} {gd : Option (List Code)} {cn : Str} {cs : Scope} {a : Addr} {ccd : Value} {cl : List (Str × Addr)} {outer : List Env} {A₀ : Around} {base h₀ : Heap} {L : Addr} {m : Str → Option Value} {news : List (Addr × Obj)} {s : Shared}
    {Q E : Value → Shared → Prop}
    (B : Below A₀ base outer h₀) (F : Fr h₀ L s.heap m) (X : (hd.heap_39 w.params).In h₀) (N : News h₀ L s.heap news) (T : Top hd.view_39 Lo mean mg mb h₀) (hk : cs.kind = .function)
include B F X N T hk


theorem words_12 : True := by
  k_with_none
  (k_with "ne" => (first | k_extra "ne0" | k_extra "ne1"))
  (k_with "ne0" => (with_reducible first | assumption | exact Nat.succ_ne_self _ | exact (Nat.succ_ne_self _).symm | exact ne_off2 | exact ne_off2.symm | exact ne_off3 | exact ne_off3.symm | exact ne_off4 | exact ne_off4.symm | exact ne_off5 | exact ne_off5.symm))
  (k_with "ne1" => (((with_reducible rename _ ∧ _ => h9); first | (with_reducible first | exact h9.1.symm | exact Nat.ne_of_gt h9.1 | exact h9.1 | exact Nat.ne_of_lt h9.1 | exact h9.2.1.symm | exact Nat.ne_of_gt h9.2.1 | exact h9.2.1 | exact Nat.ne_of_lt h9.2.1 | exact h9.2.2.1.symm | exact Nat.ne_of_gt h9.2.2.1 | exact h9.2.2.1 | exact Nat.ne_of_lt h9.2.2.1 | exact h9.2.2.2.1.symm | exact Nat.ne_of_gt h9.2.2.2.1 | exact h9.2.2.2.1 | exact Nat.ne_of_lt h9.2.2.2.1 | exact h9.2.2.2.2.1.symm | exact Nat.ne_of_gt h9.2.2.2.2.1 | exact h9.2.2.2.2.1 | exact Nat.ne_of_lt h9.2.2.2.2.1 | exact h9.2.2.2.2.2.1.symm | exact Nat.ne_of_gt h9.2.2.2.2.2.1 | exact h9.2.2.2.2.2.1 | exact Nat.ne_of_lt h9.2.2.2.2.2.1 | exact h9.2.2.2.2.2.2.1.symm | exact Nat.ne_of_gt h9.2.2.2.2.2.2.1 | exact h9.2.2.2.2.2.2.1 | exact Nat.ne_of_lt h9.2.2.2.2.2.2.1 | exact h9.2.2.2.2.2.2.2.1.symm | exact Nat.ne_of_gt h9.2.2.2.2.2.2.2.1 | exact h9.2.2.2.2.2.2.2.1 | exact Nat.ne_of_lt h9.2.2.2.2.2.2.2.1 | exact h9.2.2.2.2.2.2.2.2.1.symm | exact Nat.ne_of_gt h9.2.2.2.2.2.2.2.2.1 | exact h9.2.2.2.2.2.2.2.2.1 | exact Nat.ne_of_lt h9.2.2.2.2.2.2.2.2.1 | exact h9.2.2.2.2.2.2.2.2.2.1.symm | exact Nat.ne_of_gt h9.2.2.2.2.2.2.2.2.2.1 | exact h9.2.2.2.2.2.2.2.2.2.1 | exact Nat.ne_of_lt h9.2.2.2.2.2.2.2.2.2.1 | exact h9.2.2.2.2.2.2.2.2.2.2.1.symm | exact Nat.ne_of_gt h9.2.2.2.2.2.2.2.2.2.2.1 | exact h9.2.2.2.2.2.2.2.2.2.2.1 | exact Nat.ne_of_lt h9.2.2.2.2.2.2.2.2.2.2.1 | exact h9.2.2.2.2.2.2.2.2.2.2.2.1.symm | exact Nat.ne_of_gt h9.2.2.2.2.2.2.2.2.2.2.2.1 | exact h9.2.2.2.2.2.2.2.2.2.2.2.1 | exact Nat.ne_of_lt h9.2.2.2.2.2.2.2.2.2.2.2.1 | exact h9.2.2.2.2.2.2.2.2.2.2.2.2.1.symm | exact Nat.ne_of_gt h9.2.2.2.2.2.2.2.2.2.2.2.2.1 | exact h9.2.2.2.2.2.2.2.2.2.2.2.2.1 | exact Nat.ne_of_lt h9.2.2.2.2.2.2.2.2.2.2.2.2.1 | exact h9.2.2.2.2.2.2.2.2.2.2.2.2.2.1.symm | exact Nat.ne_of_gt h9.2.2.2.2.2.2.2.2.2.2.2.2.2.1 | exact h9.2.2.2.2.2.2.2.2.2.2.2.2.2.1 | exact Nat.ne_of_lt h9.2.2.2.2.2.2.2.2.2.2.2.2.2.1 | exact h9.2.2.2.2.2.2.2.2.2.2.2.2.2.2.1.symm | exact Nat.ne_of_gt h9.2.2.2.2.2.2.2.2.2.2.2.2.2.2.1 | exact h9.2.2.2.2.2.2.2.2.2.2.2.2.2.2.1 | exact Nat.ne_of_lt h9.2.2.2.2.2.2.2.2.2.2.2.2.2.2.1 | exact h9.2.2.2.2.2.2.2.2.2.2.2.2.2.2.2.1.symm | exact Nat.ne_of_gt h9.2.2.2.2.2.2.2.2.2.2.2.2.2.2.2.1 | exact h9.2.2.2.2.2.2.2.2.2.2.2.2.2.2.2.1 | exact Nat.ne_of_lt h9.2.2.2.2.2.2.2.2.2.2.2.2.2.2.2.1) | (clear h9; k_extra "ne1"))))
  (k_with "my_enter" => ((refine' code_def ?k1 ?k2 ?k3 ?k4 ?k5 ?kA ?kF ?kK ?k6 ?k7 ?k8 ?k9 ?kB ?_ ?c2 ?c3 ?c4 ?c5; (case kA => exact rfl); (case kF => exact rfl); (case kK => assumption); (case k1 => k_asm); (case k2 => k_asm); (case k3 => k_asm); (case k4 => k_asm); (case k5 => k_asm); (case k6 => k_is); (case k7 => k_is); (case k8 => ktr_room); (case k9 => first | exact BindsTo.of_eq rfl | exact binds_K (by k_in) rfl (by k_is) rfl rfl rfl); (case c5 => decide); (case kB => exact locs rfl); (case c2 => exact rfl); (case c3 => exact rfl); (case c4 => exact rfl); k_whole; intro g' L' h' FG' F' N' B' X' T'; (try dsimp only); (try k_lift B'); (try k_fold))))
  (k_with "my_enterC" => ((refine' code_defC ?k1 ?k2 ?k3 ?k4 ?k5 ?kA ?kF ?kK ?k6 ?k7 ?k8 ?k9 ?kB ?kD ?_ ?c2 ?c3 ?c4; (case kA => exact rfl); (case kF => exact rfl); (case kK => assumption); (case k1 => k_asm); (case k2 => k_asm); (case k3 => k_asm); (case k4 => k_asm); (case k5 => k_asm); (case k6 => k_is); (case k7 => k_is); (case k8 => ktr_room); (case k9 => first | exact BindsTo.of_eq rfl | exact binds_K (by k_in) rfl (by k_is) rfl rfl rfl | fail "k_enter: no rule for these arguments"); (case kB => exact rfl); (case kD => decide +kernel); (case c2 => exact rfl); (case c3 => exact rfl); (case c4 => exact rfl); k_whole; intro g' L' h' tk' cells' FG' F' N' Y' B' X' T' l1; (try k_lt l1); k_cells Y'; (try simp only [List.cons_append, List.nil_append] at N'); (try dsimp only); (try k_lift B'); (try k_fold))))
  (k_with "my exec For Name BinOp cons nil" => ((k_here; (rename Fr _ _ _ _ => lF'); (with_unfolding_all refine' For_invVF lF' ?k1 ?k2 ?_; (case k1 => exact rfl); (case k2 => exact rfl); k_whole))))
  (k_with "my pyIter ref" => ((k_here; refine HoldC.out ?_)))
  trivial
local macro_rules | `(tactic| k_all) => `(tactic| with_reducible assumption)
theorem words_13 : True := by
  (k_with "my binaryOp FloorDiv int int" => ((k_here; with_reducible refine floordiv_int (by with_reducible assumption) ?_ (Or.inl (PyProof.noPylong_small (by with_reducible assumption))))))
  (k_with "my call builtin:str.join" => ((k_here; (with_reducible show wpAny _ _ (call (Value.builtin "str.join") [Value.str _ _, Value.ref _]) _ _ _); rename News _ _ _ _ => NJ; (refine join_grown NJ List.mem_cons_self (by with_reducible assumption) ?_); intro tj kj)))
  (k_with "my eval ListComp" => ((k_here; k_dflt (refine LCg.ListComp_U (F₀ := by k_asm) (by with_unfolding_all rfl) (by decide) (by rfl) (by decide) (by rfl) ?_))))
  (k_with "my CompSrc" => ((k_here; k_dflt ((refine LCg.CompSrc.range (by rfl) (by k_asm) (by k_asm) (by assumption) (small_one (by omega) (by omega) (by omega) (by omega)) (rangeSize_nat _ _) (by rw [PySem.sizeLine_eq]; omega) ?_; intro g'; refine HoldC.out ?_)))))
  trivial
theorem lines_spec {sa : Addr} {vs : List Value} {ns : List Int}
    (hdp : dp + 2 < recursionLimit) (hu : un + 16 < cLine) (hl : base.IsList sa vs.toArray) (hi : IntsAre vs ns) (hlen : ns.length ≤ 63)
    (hret : ∀ h' tk' D rows its nn tl, rows.length = 4 + min 5 ns.length → RowsOf ns.sum ([8, 62, 122, 4] ++ List.take 5 ns) rows → OwnOff tl (news.map (·.1)) → (∀ p ∈ news, p.1 < D) → DatAll (tl ++ news) its (rows.map rowDat) → Fr h₀ L h' m → News h₀ L h' ((D, listOf its.toArray nn) :: (tl ++ news)) → Q (.ref D) { s with heap := h', toks := tk' }) :
    wpAny (model PySem.Challenge.rw_ik0034_01.row.prog w) (ktrTop dp un gd cn cs L a ccd cl outer) (call (.ref 107) [.ref sa]) Q E s := by
  refine wpAny_call ?_
  k_dflt (k_extra "my_enterC")
  k_steps
  rename Fr _ _ _ _ => F1
  rename News _ _ _ (_ :: _ :: _ :: _ :: _ :: news) => N1
  rename IntsAre _ ([8, 62, 122, 4] ++ _) => hI
  rename Obj.data _ = _ => hd1
  refine HoldC.mk (lines_loop ns.sum hI F1 N1 hd1 rfl (lt_of_and (by assumption)) (fun p hp => Nat.lt_succ_of_lt (‹∀ p ∈ news, p.1 < _› p hp)) ?turn ?done)
  case turn =>
    intro c tl pre post n t u h tk own he hmem ha1 ha2 hsep hoff hf hP Ft Nt
    obtain ⟨its, nl, oc, rows⟩ := c
    obtain ⟨hda, cv, hcv⟩ := hf
    obtain ⟨hrl, hro⟩ := hP
    dsimp only at hda hcv hrl hro Nt
    have hits : its.length = pre.length := by rw [hda.length, List.length_map, hrl]
    have hpre : pre.length ≤ 8 := by
      have h9 := congrArg List.length he
      simp only [List.length_append, List.length_cons, List.length_nil, List.length_take] at h9
      omega
    have hits2 : its.toArray.size ≤ 8 := by rw [List.size_toArray]; omega
    have hits3 : its.length ≤ 8 := by omega
    have hm6 : 0 ≤ n.fmod 6 ∧ n.fmod 6 < 6 := ⟨Int.fmod_nonneg_of_pos _ (by decide), Int.fmod_lt_of_pos _ (by decide)⟩
    k_steps
    refine HoldC.mk (comp_go (fun i ys => ∃ ls : List (Str × Tok), ys = strValues ls ∧ ls.length = i ∧ ∀ y ∈ ls.map (·.1), SignOk y) ⟨[], rfl, rfl, fun _ h => nomatch h⟩ trivial ?t ?f)
    case t =>
      intro i v ys I oI C oC D m₂ h2 tk2 E' hi hv hy hC hx F N off ne
      obtain ⟨k1, rfl⟩ := hv
      obtain ⟨ls, rfl, hl1, hl2⟩ := hy
      obtain ⟨h5, h5b⟩ := five_pow (a := 0 + (i : Int)) (by omega) (by omega)
      k_steps
      exact turn_end (by assumption) (by assumption) (fun p hp => hp) ⟨ls ++ [(_, _)], strs_snoc, by rw [List.length_append, hl1]; rfl, sign_snoc hl2 (sign_item (Int.fmod_nonneg_of_pos _ (by decide)) (Int.fmod_lt_of_pos _ (by decide)))⟩
    case f =>
      intro ys hy
      obtain ⟨h5, h5b⟩ := five_pow (a := n.fmod 6) (by omega) (by omega)
      obtain ⟨ls, rfl, hl1, hl2⟩ := hy
      have hjr := join_room hl2 (by omega)
      obtain ⟨hj1, hj2⟩ := join_signs hl2
      k_steps
      all_goals (try (exfalso; omega))
      all_goals
        rename News _ _ _ ((_, _) :: (_, LCg.lst _) :: (_, listOf (Array.push _ _) _) :: _) => NZ
        rename Fr _ _ _ (fun y => if y = Str.ofString "bare" then _ else _) => FZ
        have hlen : (((Txt.join (Str.ofString "") (ls.map (·.1))).length : Nat) : Int) = n.fmod 6 := by rw [hj1, List.length_map, hl1]; omega
        first
          | (refine lines_end hsep FZ NZ (by assumption) (by assumption) hda hrl hro (num := none) (fun _ => .none) ⟨hlen, hj2, (fun _ h => nomatch h), (fun _ => rfl), ?_⟩ ?_)
          | (refine lines_end hsep FZ NZ (by assumption) (by assumption) hda hrl hro (num := some _) (fun _ => .int _ _) ⟨hlen, hj2, ?_, (fun h => absurd h ‹_›), (fun _ _ h => nomatch h)⟩ ?_)
        all_goals first
          | (intro h8 hn4; exfalso; subst h8; first | (exact hn4 (by assumption)) | (revert ‹(((8 : Int).fdiv 6).fdiv (5 ^ ((8 : Int).fmod 6).toNat)).fmod 3 = 2›; decide))
          | (intro z h2 h3; simp only [List.contains_cons, List.contains_nil, Bool.or_false, Bool.or_eq_false_iff, beq_eq_false_iff_ne, ne_eq] at h3; simp [h2, h3])
          | (intro q hq; cases hq; exact num_room _ _ hits2)
  case done => 
    intro c tl u h tk hoff hf hP Ft Nt
    obtain ⟨its, nl, oc, rows⟩ := c
    obtain ⟨hda, cv, hcv⟩ := hf
    obtain ⟨hrl, hro⟩ := hP
    dsimp only at hda hcv hrl hro Nt
    k_steps
    rename News h₀ L _ (_ :: _ :: _ :: _) => NZ
    exact hret _ _ _ rows its nl _ (by rw [hrl]; simp; omega) hro (off_done hoff (by assumption) (by assumption)) (lt_of_and (by assumption)) (dat_order hda) (by assumption) (news_order NZ)
end
end TextE5
end Mine
namespace Mine
section TextFM1
set_option maxRecDepth 100000
set_option maxHeartbeats 1000000
theorem slot_filter_next : Slot "filter" "__next__" "filter.__next__" :=
  .of (owner := "filter") (n := "__next__") (by rw [typeLookup_type, builtinLookup_eq_fast]; kernel_rfl) (by decide +kernel) (by decide +kernel) (by decide +kernel)
    (by first | exact .inl (by decide +kernel) | exact .inr (by decide +kernel)) (by rw [isSubtype_type]; kernel_rfl)
theorem slot_filter_iter : Slot "filter" "__iter__" "filter.__iter__" :=
  .of (owner := "filter") (n := "__iter__") (by rw [typeLookup_type, builtinLookup_eq_fast]; kernel_rfl) (by decide +kernel) (by decide +kernel) (by decide +kernel)
    (by first | exact .inl (by decide +kernel) | exact .inr (by decide +kernel)) (by rw [isSubtype_type]; kernel_rfl)
theorem slot_filter_init : Slot "filter" "__init__" "object.__init__" :=
  .of (owner := "object") (n := "__init__") (by rw [typeLookup_type, builtinLookup_eq_fast]; kernel_rfl) (by decide +kernel) (by decide +kernel) (by decide +kernel)
    (by first | exact .inl (by decide +kernel) | exact .inr (by decide +kernel)) (by rw [isSubtype_type]; kernel_rfl)
theorem entry_filter_next : entryFor table "filter.__next__" = some Builtin.«filter.__next__» := entryFor_of_tree (by kernel_rfl)
theorem entry_filter_iter : entryFor table "filter.__iter__" = some Builtin.«dict_keyiterator.__iter__» :=
  entryFor_alias (id' := "dict_keyiterator.__iter__") (by kernel_rfl) (by first | rfl | decide +kernel | (unfold String.splitOn; simp +decide [String.splitOnAux])) (by decide +kernel) (by kernel_rfl)
theorem args_filter_next (a : Value) : argsOk "filter.__next__" ⟨[a], []⟩ := by unfold argsOk; kernel_rfl
theorem args_filter_iter (a : Value) : argsOk "filter.__iter__" ⟨[a], []⟩ := by unfold argsOk; kernel_rfl
theorem mro_filter : mroOf (.type "filter") = pure [.type "filter", .type "object"] := by rw [mroOf_type]; kernel_rfl
theorem lookup_filter_new : typeLookup (.type "filter") "__new__" = pure (some (.builtin "filter.__new__")) := by rw [typeLookup_type, builtinLookup_eq_fast]; kernel_rfl
theorem called_filter : TypeCalled "filter" "filter.__new__" "object.__init__" :=
  ⟨by decide +kernel, by decide +kernel, ⟨_, _, mro_filter⟩, madeBy_type mro_filter lookup_filter_new (by decide +kernel), by decide +kernel, by rw [isSubtype_type]; kernel_rfl, slot_filter_init⟩
theorem typeCall_filter_2 (a b : Value) : checkTypeCall "filter" ⟨[a, b], []⟩ = pure () := by kernel_rfl
theorem newCall_filter_2 (a b : Value) : checkBuiltinCall "filter.__new__" ⟨[.type "filter", a, b], []⟩ = pure () := by kernel_rfl
theorem args_object_init_f (a b c : Value) : argsOk "object.__init__" ⟨[a, b, c], []⟩ := by unfold argsOk; kernel_rfl
theorem entry_filter_new : entryFor table "filter.__new__" = some Builtin.«filter.__new__» := entryFor_of_tree (by kernel_rfl)
theorem plain_filter_next : plainId "filter.__next__" = true := by decide +kernel
theorem sub_filter : isSubtype (.type "filter") (.type "filter") = pure true := by rw [isSubtype_type]; kernel_rfl
theorem istype_filter : isType (.type "filter") = pure true := by rfl

section
variable {prog : Program} {w : World} {K : Type} [DecidableEq K] {knd : KeyKind prog w K} {A : Around} {E : Value → Shared → Prop} {s : Shared}
theorem val_own : Builtin.Dict_items.ownsTuple "dict_valueiterator" = false := by decide

/-- the view's iterator hands on the value at its place -/
theorem next_val {it d : Addr} {i ep : Nat} {kvs : List (K × Value)} {k : K} {v : Value} {Q : Option Value → Shared → Prop} (hit : s.heap.IsValIter it d i kvs.length ep)
    (hm : s.heap.DictAt knd d kvs ep) (hx : kvs[i]? = some (k, v)) (hQ : ∀ h', h'.IsValIter it d (i + 1) kvs.length ep → Heap.SameBut it s.heap h' → Q (some v) { s with heap := h' }) :
    wpAny (model prog w) A (callSpecial? (.ref it) "__next__") Q E s := by
  obtain ⟨o, ho, hc, hd⟩ := id hit
  obtain ⟨od, es, hod, hcd, hdd, hk, hp, hn⟩ := id hm
  have hlt : i < kvs.length := (List.getElem?_eq_some_iff.mp hx).1
  have hsz : es.size = kvs.length := by rw [← hp.length]; simp
  have hlt' : i < es.size := by omega
  have hval : es[i].val = v := (hp.get? (e := es[i]) (by simp [hlt']) hx).2
  have hg : es[i]? = some es[i] := Array.getElem?_eq_getElem hlt'
  have hi0 : ¬ ((i : Int) < 0) := by omega
  refine wpAny_callSpecial?_slot (name := Str.ofString "__next__") hit.typeIs PySem.F.slot_dict_valueiterator_next
    (wpAny_call_entry PySem.F.slot_dict_valueiterator_next hit.typeIs PySem.F.entry_dict_valueiterator_next ?_ (PySem.F.args_dict_valueiterator_next_1 _))
  refine wpAny_bind (wpAny_pure ?_)
  refine wpAny_bind ?_
  refine wpAny_bind ?_
  refine wpAny_bind (wpAny_typeNameOfWhole_valiter hit.typeIs (wpAny_pure ?_))
  refine wpAny_bind (wpAny_fieldsOf ho hd ?_)
  simp only [val_own, Bool.false_eq_true, if_false]
  show wpAny _ _ (if (Value.ref d == Value.none) = true then _ else _) _ _ s
  rw [if_neg (show ¬ ((Value.ref d == Value.none) = true) from Bool.false_ne_true)]
  refine wpAny_bind (wpAny_pure (wpAny_bind (wpAny_dictEntries hod hdd ?_)))
  rw [if_neg (by rw [hsz]; simp)]
  refine wpAny_bind (wpAny_pure (wpAny_bind (wpAny_dictEpoch hod hdd ?_)))
  rw [if_neg (by simp)]
  refine wpAny_pure ?_
  simp only [hi0, if_false, Int.toNat_natCast, hg]
  refine wpAny_bind (wpAny_bind (wpAny_typeNameOfWhole_valiter hit.typeIs (wpAny_pure ?_)))
  refine wpAny_bind (wpAny_isOneOf_valiter hit.typeIs ?_)
  show wpAny _ _ (setField (.ref it) 1 (rawInt ((i : Int) + 1)) >>= _) _ _ s
  refine wpAny_bind (wpAny_setField ho hd (by simp) ?_)
  have hit' : (s.heap.update it (Obj.mapFields (·.setIfInBounds 1 (rawInt ((i : Int) + 1))))).IsValIter it d (i + 1) kvs.length ep :=
    ⟨_, Heap.get?_update_self _ ho (Obj.isFreed_of_fields (Obj.data_mapFields hd _)), (Obj.cls_mapFields ..).trans hc, by rw [Obj.data_mapFields hd]; simp [rawInt]⟩
  refine wpAny_bind (wpAny_holding (wpAny_bind (wpAny_isOneOf_valiter (s := { s with heap := _ }) hit'.typeIs ?_)))
  refine wpAny_bind (wpAny_isOneOf_valiter (s := { s with heap := _ }) hit'.typeIs ?_)
  show wpAny _ _ (pure es[i].val) _ _ _
  exact wpAny_pure (wpAny_pure ⟨_, rfl, hval ▸ hQ _ hit' (Heap.SameBut.update ..)⟩)
/-- behind its last place it stops -/
theorem next_end {it d : Addr} {i ep : Nat} {kvs : List (K × Value)} {Q : Option Value → Shared → Prop} (hh : A.handled = none) (hit : s.heap.IsValIter it d i kvs.length ep)
    (hm : s.heap.DictAt knd d kvs ep) (hx : kvs.length ≤ i) (hE : ∀ h' e, (∃ o, h'.get? e = some o ∧ o.cls = .type "StopIteration") → Heap.ExtBut it s.heap h' → E (.ref e) { s with heap := h' }) :
    wpAny (model prog w) A (callSpecial? (.ref it) "__next__") Q E s := by
  obtain ⟨o, ho, hc, hd⟩ := id hit
  obtain ⟨od, es, hod, hcd, hdd, hk, hp, hn⟩ := id hm
  have hsz : es.size = kvs.length := by rw [← hp.length]; simp
  have hge : es.size ≤ i := by omega
  have hi0 : ¬ ((i : Int) < 0) := by omega
  refine wpAny_callSpecial?_slot (name := Str.ofString "__next__") hit.typeIs PySem.F.slot_dict_valueiterator_next
    (wpAny_call_entry PySem.F.slot_dict_valueiterator_next hit.typeIs PySem.F.entry_dict_valueiterator_next ?_ (PySem.F.args_dict_valueiterator_next_1 _))
  refine wpAny_bind (wpAny_pure ?_)
  refine wpAny_bind ?_
  refine wpAny_bind ?_
  refine wpAny_bind (wpAny_typeNameOfWhole_valiter hit.typeIs (wpAny_pure ?_))
  refine wpAny_bind (wpAny_fieldsOf ho hd ?_)
  simp only [val_own, Bool.false_eq_true, if_false]
  show wpAny _ _ (if (Value.ref d == Value.none) = true then _ else _) _ _ s
  rw [if_neg (show ¬ ((Value.ref d == Value.none) = true) from Bool.false_ne_true)]
  refine wpAny_bind (wpAny_pure (wpAny_bind (wpAny_dictEntries hod hdd ?_)))
  rw [if_neg (by rw [hsz]; simp)]
  refine wpAny_bind (wpAny_pure (wpAny_bind (wpAny_dictEpoch hod hdd ?_)))
  rw [if_neg (by simp)]
  refine wpAny_pure ?_
  simp only [hi0, if_false, Int.toNat_natCast, Array.getElem?_eq_none hge]
  refine wpAny_bind (wpAny_bind (wpAny_typeNameOfWhole_valiter hit.typeIs (wpAny_pure ?_)))
  show wpAny _ _ (setField (.ref it) 0 .none >>= _) _ _ s
  refine wpAny_bind (wpAny_setField ho hd (by simp) ?_)
  show wpAny _ _ (newExc (.type "StopIteration") [] >>= _) _ _ _
  refine wpAny_bind ?_
  simp only [newExc, newTuple]
  refine wpAny_bind (wpAny_newObj_type ?_ (by size_fits))
  refine wpAny_bind (m := firstArgMember _ _) (wpAny_of_eq (a := Value.none) (by first | rfl | (simp only [firstArgMember]; rfl)) ?_)
  refine wpAny_newObj_type ?_ (by size_fits)
  simp only [raiseNew]
  refine wpAny_bind (wpAny_handled ?_)
  rw [show A.in1.handled = none from hh]
  refine wpAny_bind (wpAny_pure (wpAny_throw ?_))
  exact hE _ _ ⟨_, Heap.get?_push_size _ rfl, rfl⟩ (((Heap.SameBut.update ..).extBut.push _).push _)

noncomputable abbrev fltO (J : Addr) : Obj := { cls := .type "filter", data := .fields #[.none, .ref J] }
/-- the numbers that a dict's values are: None is none -/
noncomputable def ValOf : Option Int → Value → Prop
  | none, v => v = .none
  | some n, v => n ≠ 0 ∧ ∃ t, v = .int n t
structure ValsOf (kvs : List (K × Value)) (os : List (Option Int)) : Prop where
  len : os.length = kvs.length
  val : ∀ (i : Nat) (k : K) (v : Value) (o : Option Int), kvs[i]? = some (k, v) → os[i]? = some o → ValOf o v
theorem ValsOf.at {kvs : List (K × Value)} {os : List (Option Int)} (h : ValsOf kvs os) {i : Nat} (hi : i < kvs.length) : ∃ k v o, kvs[i]? = some (k, v) ∧ os[i]? = some o ∧ ValOf o v := by
  have h2 : i < os.length := by rw [h.len]; exact hi
  refine ⟨kvs[i].1, kvs[i].2, os[i], by simp [hi], by simp [h2], h.val i kvs[i].1 _ _ (by simp [hi]) (by simp [h2])⟩
/-- what holds between two draws of the filter -/
structure DrawnAt (h : Heap) (knd : KeyKind prog w K) (I J d : Addr) (i ep : Nat) (kvs : List (K × Value)) : Prop where
  flt : h.get? I = some (fltO J)
  it : h.IsValIter J d i kvs.length ep
  dict : h.DictAt knd d kvs ep
theorem flt_run {I J d : Addr} {ep : Nat} {kvs : List (K × Value)} {os : List (Option Int)} (hh : A.handled = none) (hIJ : I ≠ J) (hdJ : d ≠ J) (hv : ValsOf kvs os) {R : Result → Shared → Prop} :
    ∀ (r i : Nat) (s : Shared), kvs.length - i = r → i ≤ kvs.length → DrawnAt s.heap knd I J d i ep kvs →
      (∀ j n t h', i ≤ j → (∀ q, i ≤ q → q < j → os[q]? = some none) → os[j]? = some (some n) → DrawnAt h' knd I J d (j + 1) ep kvs → Heap.ExtBut J s.heap h' → R (.ok (.ret (.int n t))) { s with heap := h' }) →
      (∀ h' e, (∀ q, i ≤ q → q < os.length → os[q]? = some none) → (∃ o, h'.get? e = some o ∧ o.cls = .type "StopIteration") → Heap.ExtBut J s.heap h' → R (.error (.ref e)) { s with heap := h' }) →
      codeAny (model prog w) A (.builtin "filter.__next__" ⟨[.ref I], []⟩) R s := by
  intro r
  induction r with
  | zero =>
    intro i s hr hi hD hf he
    refine codeAny_builtin entry_filter_next ?_
    rw [Around.under_plainId plain_filter_next _]
    refine wpAny_bind (wpAny_pure ?_)
    refine wpAny_bind (wpAny_field hD.flt rfl rfl ?_)
    refine wpAny_bind (wpAny_field hD.flt rfl rfl ?_)
    refine wpAny_bind (next_end (knd := knd) hh hD.it hD.dict (by omega) fun h' e ho x => ?_)
    exact he h' e (fun q h1 h2 => absurd h2 (by rw [hv.len]; omega)) ho x
  | succ r ih =>
    intro i s hr hi hD hf he
    obtain ⟨k, v, o, e1, e2, e3⟩ := hv.at (i := i) (by omega)
    refine codeAny_builtin entry_filter_next ?_
    rw [Around.under_plainId plain_filter_next _]
    refine wpAny_bind (wpAny_pure ?_)
    refine wpAny_bind (wpAny_field hD.flt rfl rfl ?_)
    refine wpAny_bind (wpAny_field hD.flt rfl rfl ?_)
    refine wpAny_bind (next_val (knd := knd) hD.it hD.dict e1 fun h' hit' x => ?_)
    have hD' : DrawnAt h' knd I J d (i + 1) ep kvs := ⟨x.extBut I _ hIJ hD.flt, hit', hD.dict.extBut x.extBut hdJ⟩
    have lift : ∀ {h1 : Heap}, Heap.ExtBut J h' h1 → Heap.ExtBut J s.heap h1 := fun y b o hb e => y b o hb (x.extBut b o hb e)
    show wpAny _ _ (holding [v] (if (Value.none == Value.none || Value.none == Value.type "bool") = true then (do rule "filter.__next__.own-truth"; truthy v) else _) >>= _) _ _ _
    rw [if_pos (show (Value.none == Value.none || Value.none == Value.type "bool") = true from rfl)]
    cases o with
    | none =>
      cases e3
      refine wpAny_bind (wpAny_holding (wpAny_bind (wpAny_rule ?_)))
      refine wpAny_pure ?_
      show wpAny _ _ (if false = true then _ else _) _ _ _
      rw [if_neg Bool.false_ne_true]
      refine wpAny_pure ⟨plainId_quiet plain_filter_next _, ih (i + 1) _ (by omega) (by omega) hD' ?_ ?_⟩
      · intro j n t h1 hj hq hn hD1 y
        refine hf j n t h1 (by omega) (fun q h1 h2 => ?_) hn hD1 (lift y)
        by_cases hqi : q = i
        · rw [hqi]; exact e2
        · exact hq q (by omega) h2
      · intro h1 e hq ho y
        refine he h1 e (fun q h1 h2 => ?_) ho (lift y)
        by_cases hqi : q = i
        · rw [hqi]; exact e2
        · exact hq q (by omega) h2
    | some n =>
      obtain ⟨hn, t, rfl⟩ := e3
      refine wpAny_bind (wpAny_holding (wpAny_bind (wpAny_rule (PyProof.Rows.truthy_int ?_))))
      show wpAny _ _ (if (n != 0) = true then _ else _) _ _ _
      rw [if_pos (by simpa using hn)]
      exact wpAny_pure (hf i n t h' (Nat.le_refl i) (fun q h1 h2 => absurd h1 (by omega)) e2 hD' x.extBut)
end
end TextFM1
end Mine
namespace Mine
section TextFM2
set_option maxRecDepth 100000
set_option maxHeartbeats 1000000
section
variable {prog : Program} {w : World} {K : Type} [DecidableEq K] {knd : KeyKind prog w K} {A : Around} {E : Value → Shared → Prop} {s : Shared}
theorem DrawnAt.typeIs {I J d : Addr} {i ep : Nat} {kvs : List (K × Value)} (h : DrawnAt s.heap knd I J d i ep kvs) : s.TypeIs (.ref I) "filter" := ⟨_, h.flt, rfl⟩
theorem pyIter_flt {I J : Addr} {Q : Value → Shared → Prop} (h : s.heap.get? I = some (fltO J)) (hq : Q (.ref I) s) : wpAny (model prog w) A (pyIter (.ref I)) Q E s := by
  have hT : s.TypeIs (.ref I) "filter" := ⟨_, h, rfl⟩
  refine wpAny_pyIter_slot hT slot_filter_iter (wpAny_call_entry slot_filter_iter hT entry_filter_iter ?_ (args_filter_iter _))
  show wpAny _ _ (ret (.ref I)) _ _ s
  exact wpAny_pure ⟨_, rfl, "filter", _, hT, slot_filter_next.lookup, hq⟩
/-- one draw -/
theorem next_flt {I J d : Addr} {ep i : Nat} {kvs : List (K × Value)} {os : List (Option Int)} {Q : Option Value → Shared → Prop} (hh : A.handled = none) (hIJ : I ≠ J) (hdJ : d ≠ J) (hv : ValsOf kvs os) (hi : i ≤ kvs.length) (hD : DrawnAt s.heap knd I J d i ep kvs)
    (hf : ∀ j n t h', i ≤ j → (∀ q, i ≤ q → q < j → os[q]? = some none) → os[j]? = some (some n) → DrawnAt h' knd I J d (j + 1) ep kvs → Heap.ExtBut J s.heap h' → Q (some (.int n t)) { s with heap := h' })
    (he : ∀ h', (∀ q, i ≤ q → q < os.length → os[q]? = some none) → Heap.ExtBut J s.heap h' → Q none { s with heap := h' }) :
    wpAny (model prog w) A (pyNext (.ref I)) Q E s := by
  unfold pyNext
  refine wpAny_bind (wpAny_attempt (wpAny_callSpecial?_slot (name := Str.ofString "__next__") hD.typeIs slot_filter_next (wpAny_call ?_)))
  refine codeAny_call_builtin_code (plainId_quiet plain_filter_next _) ?_
  refine slot_filter_next.check _ _ _ _ _ _ _ _ hD.typeIs (args_filter_next _) ?_
  refine flt_run hh hIJ hdJ hv _ i s rfl hi hD (fun j n t h' h1 h2 h3 h4 h5 => ?_) (fun h' e h1 h2 h3 => ?_)
  · exact wpAny_pure (hf j n t h' h1 h2 h3 h4 h5)
  · obtain ⟨o, h4, h5⟩ := h2
    refine wpAny_bind (wpAny_isInstance (T := "StopIteration") (b := true) ⟨o, h4, h5⟩ isSubtype_stop ?_)
    exact wpAny_pure (he h' h1 h3)

/-- the greatest number so far -/
noncomputable def BestOf (l : List (Option Int)) : Option Int → Prop
  | none => ∀ o ∈ l, o = none
  | some m => some m ∈ l ∧ ∀ n, some n ∈ l → n ≤ m
noncomputable def better : Option Int → Int → Option Int
  | none, n => some n
  | some m, n => if m < n then some n else some m
theorem best_take {os : List (Option Int)} {i j : Nat} {n : Int} {b : Option Int} (hb : BestOf (os.take i) b) (hij : i ≤ j) (hq : ∀ q, i ≤ q → q < j → os[q]? = some none) (hj : os[j]? = some (some n)) :
    BestOf (os.take (j + 1)) (better b n) := by
  have mem : ∀ o, o ∈ os.take (j + 1) ↔ o ∈ os.take i ∨ (∃ q, i ≤ q ∧ q < j ∧ os[q]? = some o) ∨ o = some n := by
    intro o
    have lt : j < os.length := (List.getElem?_eq_some_iff.mp hj).1
    simp only [List.mem_iff_getElem?, List.getElem?_take]
    constructor
    · rintro ⟨q, hq⟩
      by_cases h1 : q < i
      · exact .inl ⟨q, by rw [if_pos h1]; rw [if_pos (by omega)] at hq; exact hq⟩
      · by_cases h2 : q < j
        · exact .inr (.inl ⟨q, by omega, h2, by rw [if_pos (by omega)] at hq; exact hq⟩)
        · by_cases h3 : q = j
          · rw [if_pos (by omega), h3, hj] at hq; exact .inr (.inr (Option.some.inj hq).symm)
          · rw [if_neg (by omega)] at hq; cases hq
    · rintro (⟨q, hq⟩ | ⟨q, h1, h2, hq⟩ | rfl)
      · by_cases h1 : q < i
        · exact ⟨q, by rw [if_pos h1] at hq; rw [if_pos (by omega)]; exact hq⟩
        · rw [if_neg h1] at hq; cases hq
      · exact ⟨q, by rw [if_pos (by omega)]; exact hq⟩
      · exact ⟨j, by rw [if_pos (by omega)]; exact hj⟩
  cases b with
  | none =>
    refine ⟨(mem _).mpr (.inr (.inr rfl)), fun m hm => ?_⟩
    rcases (mem _).mp hm with h | ⟨q, h1, h2, h⟩ | h
    · cases hb _ h
    · rw [hq q h1 h2] at h; cases h
    · cases h; exact Int.le_refl _
  | some m =>
    have key : ∀ x, some x ∈ os.take (j + 1) → x ≤ m ∨ x = n := fun x hx => by
      rcases (mem _).mp hx with h | ⟨q, h1, h2, h⟩ | h
      · exact .inl (hb.2 _ h)
      · rw [hq q h1 h2] at h; cases h
      · cases h; exact .inr rfl
    show BestOf _ (if m < n then some n else some m)
    by_cases h : m < n
    · rw [if_pos h]
      exact ⟨(mem _).mpr (.inr (.inr rfl)), fun x hx => by rcases key x hx with h | h <;> omega⟩
    · rw [if_neg h]
      exact ⟨(mem _).mpr (.inl hb.1), fun x hx => by rcases key x hx with h | h <;> omega⟩
theorem best_end {os : List (Option Int)} {i : Nat} {b : Option Int} (hb : BestOf (os.take i) b) (hq : ∀ q, i ≤ q → q < os.length → os[q]? = some none) : BestOf os b := by
  have mem : ∀ o, o ∈ os → o ∈ os.take i ∨ o = none := by
    intro o h
    obtain ⟨q, hq1⟩ := List.mem_iff_getElem?.mp h
    have lt : q < os.length := (List.getElem?_eq_some_iff.mp hq1).1
    by_cases h1 : q < i
    · exact .inl (List.mem_iff_getElem?.mpr ⟨q, by rw [List.getElem?_take, if_pos h1]; exact hq1⟩)
    · rw [hq q (by omega) lt] at hq1; cases hq1; exact .inr rfl
  cases b with
  | none => exact fun o h => (mem o h).elim (hb o) id
  | some m => exact ⟨List.mem_of_mem_take hb.1, fun n h => (mem _ h).elim (hb.2 n) fun e => nomatch e⟩

/-- the list in which max keeps its best -/
noncomputable def KeptB (h : Heap) (S : Addr) : Option Int → Prop
  | none => ∃ c, h.get? S = some { cls := .type "list", dict := none, data := .seq #[] c, slots := #[] }
  | some m => ∃ t c, h.get? S = some { cls := .type "list", dict := none, data := .seq #[.int m t, .int m t] c, slots := #[] }
theorem KeptB.keep {h h' : Heap} {S J : Addr} {b : Option Int} (k : KeptB h S b) (hSJ : S ≠ J) (x : Heap.ExtBut J h h') : KeptB h' S b := by
  cases b with
  | none => obtain ⟨c, k⟩ := k; exact ⟨c, x S _ hSJ k⟩
  | some m => obtain ⟨t, c, k⟩ := k; exact ⟨t, c, x S _ hSJ k⟩
theorem DrawnAt.upd {h : Heap} {I J d S : Addr} {i ep : Nat} {kvs : List (K × Value)} (D : DrawnAt h knd I J d i ep kvs) (hI : I ≠ S) (hJ : J ≠ S) (hd : d ≠ S) (f : Obj → Obj) : DrawnAt (h.update S f) knd I J d i ep kvs := by
  have e : ∀ b, b ≠ S → (h.update S f).get? b = h.get? b := fun b hb => Heap.get?_update_other _ _ (Ne.symm hb)
  refine ⟨(e I hI).trans D.flt, D.it.at fun o ho => (e J hJ).trans ho, D.dict.at' fun o ho => (e d hd).trans ho⟩
theorem max_run {I J d S : Addr} {ep : Nat} {kvs : List (K × Value)} {os : List (Option Int)} {dv : Value} {R : Result → Shared → Prop} (hh : A.handled = none) (hIJ : I ≠ J) (hdJ : d ≠ J) (hIS : I ≠ S) (hJS : J ≠ S) (hdS : d ≠ S) (hv : ValsOf kvs os) :
    ∀ (r i : Nat) (b : Option Int) (s : Shared), kvs.length - i = r → i ≤ kvs.length → BestOf (os.take i) b → DrawnAt s.heap knd I J d i ep kvs → KeptB s.heap S b →
      (∀ b v h', BestOf os b → (match b with | none => v = dv | some m => ∃ t, v = .int m t) → (∀ a o, a ≠ J → a ≠ S → s.heap.get? a = some o → h'.get? a = some o) → R (.ok (.ret v)) { s with heap := h' }) →
      codeAny (model prog w) A (.builtin "max.loop" ⟨[.ref I, .none, .ref S], [("default", dv)]⟩) R s := by
  have hname : (toString "max" ++ toString ".loop" : String) = "max.loop" := by decide
  intro r
  induction r using Nat.strongRecOn with
  | _ r ih =>
  intro i b s hr hi hb hD hS hR
  refine codeAny_builtin PySem.F.entry_max_loop ?_
  rw [Around.under_plainId PySem.F.plain_max_loop _]
  show wpAny _ A.in1 (seqItems? (.ref S) >>= _) _ _ s
  cases b with
  | none =>
    obtain ⟨c, hS⟩ := hS
    refine wpAny_bind (wpAny_seqItems hS rfl ?_)
    show wpAny _ A.in1 (tryCatch (pyNext (.ref I)) _ >>= _) _ _ s
    refine wpAny_bind (wpAny_tryCatch (next_flt (knd := knd) hh hIJ hdJ hv hi hD (fun j n t h' h1 h2 h3 h4 h5 => ?_) fun h' h1 h2 => ?_))
    · have hS' := h5 S _ (Ne.symm hJS) hS
      show wpAny _ A.in1 (updateSeq S (fun _ => #[.int n t, .int n t]) >>= _) _ _ _
      refine wpAny_bind ?_
      refine wpAny_updateSeq hS' rfl ?_
      rw [hname]
      have lt : j < kvs.length := by rw [← hv.len]; exact (List.getElem?_eq_some_iff.mp h3).1
      refine wpAny_pure ⟨plainId_quiet PySem.F.plain_max_loop _, ih (kvs.length - (j + 1)) (by omega) (j + 1) (some n) _ rfl (by omega) (best_take hb h1 h2 h3) (h4.upd hIS hJS hdS _) ⟨t, _, Heap.get?_update_self _ hS' rfl⟩ fun b v h'' hb hv hk => ?_⟩
      exact hR b v h'' hb hv fun a o ha1 ha2 e => hk a o ha1 ha2 ((Heap.get?_update_other _ _ (Ne.symm ha2)).trans (h5 a o ha1 e))
    · refine wpAny_bind (wpAny_rule ?_)
      exact wpAny_pure (hR none dv h' (best_end hb h1) rfl fun a o ha1 _ e => h2 a o ha1 e)
  | some m =>
    obtain ⟨t0, c, hS⟩ := hS
    refine wpAny_bind (wpAny_seqItems hS rfl ?_)
    show wpAny _ A.in1 (tryCatch (pyNext (.ref I)) _ >>= _) _ _ s
    refine wpAny_bind (wpAny_tryCatch (next_flt (knd := knd) hh hIJ hdJ hv hi hD (fun j n t h' h1 h2 h3 h4 h5 => ?_) fun h' h1 h2 => ?_))
    · have hS' := h5 S _ (Ne.symm hJS) hS
      have lt : j < kvs.length := by rw [← hv.len]; exact (List.getElem?_eq_some_iff.mp h3).1
      have hbb := best_take hb h1 h2 h3
      show wpAny _ A.in1 (tryCatch (holding [.int n t, .int n t] (richCompare .Gt (.int n t) (.int m t0) >>= _)) _ >>= _) _ _ _
      refine wpAny_bind (wpAny_tryCatch (wpAny_holding (wpAny_bind (richCompare_gives (op := .Gt) (typeIs_int _ _ t) (typeIs_int _ _ t0) PySem.F.slot_int_gt PySem.F.entry_int_gt (PySem.F.args_int_gt_2 _ _) (gives_int_gt _ _ t t0) (fun x => nomatch x) ?_))))
      refine wpAny_bind (wpAny_holding (wpAny_truthy_bool ?_))
      refine wpAny_bind (wpAny_letGo (wpAny_pure ?_))
      by_cases hb' : m < n
      · have hg : decide (n > m) = true := decide_eq_true hb'
        rw [show better (some m) n = some n from if_pos hb'] at hbb
        simp only [hg, if_true]
        refine wpAny_bind ?_
        refine wpAny_updateSeq hS' rfl (wpAny_bind (wpAny_letGo ?_))
        rw [hname]
        refine wpAny_pure ⟨plainId_quiet PySem.F.plain_max_loop _, ih (kvs.length - (j + 1)) (by omega) (j + 1) (some n) _ rfl (by omega) hbb (h4.upd hIS hJS hdS _) ⟨t, _, Heap.get?_update_self _ hS' rfl⟩ fun b v h'' hb hv hk => ?_⟩
        exact hR b v h'' hb hv fun a o ha1 ha2 e => hk a o ha1 ha2 ((Heap.get?_update_other _ _ (Ne.symm ha2)).trans (h5 a o ha1 e))
      · have hg : decide (n > m) = false := decide_eq_false hb'
        rw [show better (some m) n = some m from if_neg hb'] at hbb
        simp only [hg, if_false, Bool.false_eq_true]
        refine wpAny_bind (wpAny_letGo ?_)
        rw [hname]
        refine wpAny_pure ⟨plainId_quiet PySem.F.plain_max_loop _, ih (kvs.length - (j + 1)) (by omega) (j + 1) (some m) _ rfl (by omega) hbb h4 ⟨t0, _, hS'⟩ fun b v h'' hb hv hk => ?_⟩
        exact hR b v h'' hb hv fun a o ha1 ha2 e => hk a o ha1 ha2 (h5 a o ha1 e)
    · have hS' := h2 S _ (Ne.symm hJS) hS
      show wpAny _ A.in1 (updateSeq S (fun _ => #[]) >>= _) _ _ _
      refine wpAny_bind ?_
      refine wpAny_updateSeq hS' rfl (wpAny_bind (wpAny_letGo (wpAny_pure ?_)))
      exact hR (some m) _ _ (best_end hb h1) ⟨t0, rfl⟩ fun a o ha1 ha2 e => (Heap.get?_update_other _ _ (Ne.symm ha2)).trans (h2 a o ha1 e)
end
end TextFM2
end Mine
namespace Mine
section TextFM3
set_option maxRecDepth 100000
set_option maxHeartbeats 1000000
noncomputable abbrev viO (d : Addr) (n ep : Nat) : Obj := { cls := .type "dict_valueiterator", data := .fields #[.ref d, .int 0 0, .int n 0, .int ep 0] }
noncomputable abbrev dvO (d : Addr) : Obj := { cls := .type "dict_values", data := .fields #[.ref d] }
section
variable {prog : Program} {w : World} {K : Type} [DecidableEq K] {knd : KeyKind prog w K} {A : Around} {E : Value → Shared → Prop} {s : Shared} {h₀ : Heap} {L d v : Addr} {m : Str → Option Value} {news : List (Addr × Obj)} {Q : Value → Shared → Prop}
theorem filter_new_in (v d : Addr) (kvs : List (K × Value)) (ep : Nat) :
    MeetsIn prog w (Builtin.«filter.__new__» ⟨[.type "filter", .none, .ref v], []⟩) (fun A R s => s.heap.IsValuesView v d ∧ s.heap.DictAt knd d kvs ep ∧
      R (.ok (.ret (.ref (s.heap.objs.size + 1)))) { s with heap := (s.heap.push (viO d kvs.length ep)).push (fltO s.heap.objs.size) }) :=
  .of_wp fun A R s ⟨hv, hD, h⟩ => by
    have hz : (s.heap.push (viO d kvs.length ep)).objs.size = s.heap.objs.size + 1 := Heap.size_push ..
    unfold Builtin.«filter.__new__»
    refine wpAny_bind ?_
    unfold Builtin.SmallTypes.newClass
    show wpAny _ _ (isType (.type "filter") >>= _) _ _ _
    rw [istype_filter]
    refine wpAny_bind (wpAny_pure ?_)
    show wpAny _ _ (isSubtype (.type "filter") (.type "filter") >>= _) _ _ _
    rw [sub_filter]
    refine wpAny_bind (wpAny_pure ?_)
    refine wpAny_pure ?_
    refine wpAny_bind (wpAny_pure ?_)
    refine wpAny_bind (m := checkCount "filter" 2 2 _) (wpAny_pure ?_)
    refine wpAny_bind (wpAny_pyIter_values (knd := knd) hv hD ?_)
    refine wpAny_bind ?_
    unfold Builtin.SmallTypes.newRecord
    refine wpAny_newObj_type ?_ (by size_fits)
    refine wpAny_pure ⟨_, rfl, ?_⟩
    rw [hz]
    exact h
theorem call_filter {od : Obj} {kvs : List (K × Value)} (F : Fr h₀ L s.heap m) (N : News h₀ L s.heap news) (hv : (v, dvO d) ∈ news) (hd : (d, od) ∈ news) (hod : od.IsDictOf knd kvs)
    (h : ∀ I J ep h', Fr h₀ L h' m → News h₀ L h' ((I, fltO J) :: (J, viO d kvs.length ep) :: news) → (∀ q ∈ news, q.1 < J) → I = J + 1 → h'.DictAt knd d kvs ep → Q (.ref I) { s with heap := h' }) :
    wpAny (model prog w) A (call (.type "filter") [.none, .ref v]) Q E s := by
  obtain ⟨ep, hD⟩ := (kda_dict N hd hod).dictAt
  have hz : ∀ o, (s.heap.push o).objs.size = s.heap.objs.size + 1 := fun o => Heap.size_push ..
  refine callType_newIn called_filter (by decide) (typeCall_filter_2 _ _) (newCall_filter_2 _ _) (fun obj => args_object_init_f obj _ _) entry_filter_new (filter_new_in (knd := knd) v d kvs ep)
    ⟨⟨_, (N _ hv).1, rfl, rfl⟩, hD, ?_⟩
  have N1 := News.push F N (viO d kvs.length ep)
  have N2 := News.push (F.push (viO d kvs.length ep)) N1 (fltO s.heap.objs.size)
  rw [hz] at N2
  refine ⟨⟨_, (N2 _ List.mem_cons_self).1, rfl⟩, ?_⟩
  refine h _ _ ep _ ((F.push _).push _) N2 (fun q hq => Heap.lt_size (N q hq).1) rfl ?_
  exact hD.at' fun o e => Heap.get?_push_of_some _ (Heap.get?_push_of_some _ e)

theorem args_max_dflt (a v : Value) : argsOk "max" ⟨[a], [(Str.ofString "default", v)]⟩ := by unfold argsOk; kernel_rfl
theorem call_max_flt {I J ep : Nat} {kvs : List (K × Value)} {os : List (Option Int)} {k : Int} {u : Tok} (hh : A.handled = none) (F : Fr h₀ L s.heap m) (N : News h₀ L s.heap ((I, fltO J) :: (J, viO d kvs.length ep) :: news)) (lt : ∀ q ∈ news, q.1 < J) (hIJ : I = J + 1)
    (hdJ : (d : Nat) < J) (hv : ValsOf kvs os) (hD : s.heap.DictAt knd d kvs ep)
    (h : ∀ b t h', BestOf os b → Fr h₀ L h' m → News h₀ L h' news → Q (.int (b.getD k) t) { s with heap := h' }) :
    wpAny (model prog w) A (call (.builtin "max") [.ref I] [(Str.ofString "default", .int k u)]) Q E s := by
  have hname : (toString "max" ++ toString ".loop" : String) = "max.loop" := by decide
  have nI := N _ List.mem_cons_self
  have nJ := N _ (List.mem_cons_of_mem _ List.mem_cons_self)
  refine kmk_tree PySem.F.kind_max PySem.F.plain_max PySem.F.entry_max (args_max_dflt _ _) ?_
  show wpAny _ A.in1 (Builtin.Builtins.bindParams "max" ["key", "default"] 0 ⟨[], [(Str.ofString "default", .int k u)]⟩ >>= _) _ _ s
  refine wpAny_bind (wpAny_of_eq (show Builtin.Builtins.bindParams "max" ["key", "default"] 0 ⟨[], [(Str.ofString "default", .int k u)]⟩ = pure [none, some (.int k u)] from rfl) ?_)
  refine wpAny_bind (wpAny_pure ?_)
  refine wpAny_bind (pyIter_flt nI.1 ?_)
  refine wpAny_bind (wpAny_newList ?_ (Nat.zero_le _))
  rw [hname]
  have ltI : I < s.heap.objs.size := Heap.lt_size nI.1
  have p : ∀ b o, s.heap.get? b = some o → (s.heap.push { cls := .type "list", data := .seq #[] }).get? b = some o := fun b o e => Heap.get?_push_of_some _ e
  refine wpAny_pure ⟨plainId_quiet PySem.F.plain_max_loop _, ?_⟩
  refine max_run (knd := knd) (I := I) (J := J) (d := d) (kvs := kvs) (os := os) (ep := ep) hh ?_ ?_ ?_ ?_ ?_ hv _ 0 none _ rfl (Nat.zero_le _) (fun o ho => nomatch ho) ⟨p _ _ nI.1, ⟨_, p _ _ nJ.1, rfl, rfl⟩, hD.at' fun o e => p _ _ e⟩ ⟨_, Heap.get?_push_size _ rfl⟩ ?_
  · rw [hIJ]; exact Nat.ne_of_gt (Nat.lt_succ_self _)
  · exact Nat.ne_of_lt hdJ
  · exact Nat.ne_of_lt ltI
  · exact Nat.ne_of_lt (by omega)
  · exact Nat.ne_of_lt (Nat.lt_trans hdJ (by omega))
  · intro b v h' hb hbv hk
    have hk' : ∀ b o, b ≠ J → s.heap.get? b = some o → h'.get? b = some o := fun b o hb e => hk b o hb (Nat.ne_of_lt (Heap.lt_size e)) (p b o e)
    obtain ⟨t, rfl⟩ : ∃ t, v = .int (b.getD k) t := by
      cases b with
      | none => exact ⟨u, hbv⟩
      | some m => exact hbv
    refine h b t h' hb ?_ fun q hq => ⟨hk' _ _ (Nat.ne_of_lt (lt q hq)) (N q (List.mem_cons_of_mem _ (List.mem_cons_of_mem _ hq))).1, (N q (List.mem_cons_of_mem _ (List.mem_cons_of_mem _ hq))).2⟩
    refine kmk_fr F (fun b o hb e => hk' b o (fun q => hb (List.mem_singleton.mpr q)) e) nJ.2.1 nJ.2.2
end
end TextFM3
end Mine
namespace Mine
section TextCI
set_option maxRecDepth 100000
set_option maxHeartbeats 1000000
theorem dv_no_contains : typeLookup (.type "dict_values") "__contains__" = pure none := by rw [typeLookup_type, builtinLookup_eq_fast]; kernel_rfl
theorem plain_ci : plainId "proto.contains_iter" = true := by decide +kernel
theorem entry_ci : entryFor table "proto.contains_iter" = some Builtin.«proto.contains_iter» := entryFor_of_fast (by kernel_rfl)
section
variable {prog : Program} {w : World} {K : Type} [DecidableEq K] {knd : KeyKind prog w K} {A : Around} {E : Value → Shared → Prop} {s : Shared} {h₀ : Heap} {L d v : Addr} {m : Str → Option Value} {news : List (Addr × Obj)}
theorem eqBool_none {v : Value} {o : Option Int} {Q : Bool → Shared → Prop} (hv : ValOf o v) (h : Q o.isNone s) : wpAny (model prog w) A (eqBool v .none) Q E s := by
  cases o with
  | none =>
    cases hv
    unfold eqBool
    try with_reducible refine wpAny_holding ?_
    show wpAny _ _ (if (Value.none == Value.none) = true then _ else _) Q E s
    rw [if_pos (show (Value.none == Value.none) = true from rfl)]
    exact wpAny_bind (wpAny_rule (wpAny_pure h))
  | some n =>
    obtain ⟨_, t, rfl⟩ := hv
    unfold eqBool
    try with_reducible refine wpAny_holding ?_
    show wpAny _ _ (if (Value.int n t == Value.none) = true then _ else _) Q E s
    rw [if_neg (show ¬ (Value.int n t == Value.none) = true from Bool.false_ne_true)]
    refine wpAny_bind (m := richCompare .Eq (.int n t) .none) ?_
    refine EqNone.eq_int_none (a := n) (t := t) ?_
    exact wpAny_truthy_bool h
theorem ci_run {J d : Addr} {ep : Nat} {kvs : List (K × Value)} {os : List (Option Int)} (hh : A.handled = none) (hdJ : d ≠ J) (hv : ValsOf kvs os) {R : Result → Shared → Prop} :
    ∀ (r i : Nat) (s : Shared), kvs.length - i = r → i ≤ kvs.length → s.heap.IsValIter J d i kvs.length ep → s.heap.DictAt knd d kvs ep →
      (∀ h', Heap.ExtBut J s.heap h' → R (.ok (.ret (.bool ((os.drop i).any Option.isNone)))) { s with heap := h' }) →
      codeAny (model prog w) A (.builtin "proto.contains_iter" ⟨[.ref J, .none], []⟩) R s := by
  intro r
  induction r with
  | zero =>
    intro i s hr hi hit hD hR
    refine codeAny_builtin entry_ci ?_
    rw [Around.under_plainId plain_ci _]
    show wpAny _ _ (pyNext (.ref J) >>= _) _ _ _
    refine wpAny_bind (wpAny_pyNext_values_end (knd := knd) hh hit hD (by simp; omega) fun h' x => ?_)
    refine wpAny_bind (wpAny_rule ?_)
    have e : os.drop i = [] := List.drop_eq_nil_of_le (by rw [hv.len]; omega)
    have := hR h' x
    rw [e] at this
    exact wpAny_pure this
  | succ r ih =>
    intro i s hr hi hit hD hR
    obtain ⟨k, v, o, e1, e2, e3⟩ := hv.at (i := i) (by omega)
    have ed : os.drop i = o :: os.drop (i + 1) := by
      obtain ⟨h1, h2⟩ := List.getElem?_eq_some_iff.mp e2
      rw [List.drop_eq_getElem_cons h1, h2]
    rw [ed, List.any_cons] at hR
    refine codeAny_builtin entry_ci ?_
    rw [Around.under_plainId plain_ci _]
    show wpAny _ _ (pyNext (.ref J) >>= _) _ _ _
    refine wpAny_bind (wpAny_pyNext_values_item (knd := knd) hit hD e1 fun h' hit' x => ?_)
    refine wpAny_bind (eqBool_none e3 ?_)
    cases hn : o.isNone with
    | true =>
      rw [hn] at hR
      rw [if_pos rfl]
      exact wpAny_bind (wpAny_rule (wpAny_pure (hR h' x.extBut)))
    | false =>
      rw [hn] at hR
      rw [if_neg Bool.false_ne_true]
      exact wpAny_pure ⟨plainId_quiet plain_ci _, ih (i + 1) _ (by omega) (by omega) hit' (hD.extBut x.extBut hdJ) fun h1 y => hR h1 fun b o hb e => y b o hb (x.extBut b o hb e)⟩
theorem in_values {od : Obj} {kvs : List (K × Value)} {os : List (Option Int)} {Q : Value → Shared → Prop} (hh : A.handled = none) (F : Fr h₀ L s.heap m) (N : News h₀ L s.heap news) (hv : (v, dvO d) ∈ news) (hd : (d, od) ∈ news) (hod : od.IsDictOf knd kvs) (hvs : ValsOf kvs os)
    (h : ∀ h', Fr h₀ L h' m → News h₀ L h' news → Q (.bool (os.any Option.isNone)) { s with heap := h' }) :
    wpAny (model prog w) A (compareOp .In .none (.ref v)) Q E s := by
  obtain ⟨ep, hD⟩ := (kda_dict N hd hod).dictAt
  have hV : s.heap.IsValuesView v d := ⟨_, (N _ hv).1, rfl, rfl⟩
  show wpAny _ _ (contains (.ref v) .none >>= _) _ _ _
  refine wpAny_bind ?_
  unfold contains
  refine wpAny_holding ?_
  refine wpAny_bind (wpAny_specialOf hV.typeIs dv_no_contains ?_)
  dsimp only
  rw [if_neg (show ¬ ((none : Option Value) == some .none) = true from Bool.false_ne_true)]
  refine wpAny_bind ?_
  unfold callSpecialUnlessNone?
  refine wpAny_bind (wpAny_specialOf hV.typeIs dv_no_contains (wpAny_pure ?_))
  refine wpAny_bind (wpAny_rule ?_)
  refine wpAny_bind (wpAny_tryCatch (wpAny_pyIter_values (knd := knd) hV hD ?_))
  refine wpAny_bind (wpAny_runValue ?_)
  have p : ∀ b o, s.heap.get? b = some o → (s.heap.push (viO d kvs.length ep)).get? b = some o := fun b o e => Heap.get?_push_of_some _ e
  have hdJ : d ≠ s.heap.objs.size := Nat.ne_of_lt (Heap.lt_size (N _ hd).1)
  refine ci_run (knd := knd) (d := d) (kvs := kvs) (os := os) (ep := ep) hh hdJ hvs _ 0 _ rfl (Nat.zero_le _) ⟨_, Heap.get?_push_size _ rfl, rfl, rfl⟩ (hD.at' fun o e => p _ _ e) fun h' x => ?_
  have hk : ∀ b o, s.heap.get? b = some o → h'.get? b = some o := fun b o e => x b o (Nat.ne_of_lt (Heap.lt_size e)) (p b o e)
  refine wpAny_pure (wpAny_pure (h h' (F.keeps hk) fun q hq => ⟨hk _ _ (N q hq).1, (N q hq).2⟩))
end
end TextCI
end Mine
namespace Mine
section TextE6
set_option maxRecDepth 100000
set_option maxHeartbeats 1000000
theorem fillE6 (w : World) (h : Heap) : (hd.heap_39 w.params).In h → PySem.Challenge.rw_ik0034_01 = PySem.Challenge.rw_ik0034_01 := by
  k_fill
  intro _; rfl
theorem best_bound {os : List (Option Int)} {b : Option Int} (h : BestOf os b) (hos : ∀ n, some n ∈ os → 1 ≤ n ∧ n ≤ 1000100) : -1 ≤ b.getD (-1) ∧ b.getD (-1) ≤ 1000100 := by
  cases b with
  | none => decide
  | some m => have := hos m h.1; exact ⟨by show -1 ≤ m; omega, this.2⟩
noncomputable def lenN (n : Int) : Int := ((Str.ofString (toString n)).length : Int)
noncomputable def widthT (os : List (Option Int)) (b : Option Int) : Int :=
  if b.getD (-1) = -1 then 0
  else if (if lenN (b.getD (-1)) > 3 then lenN (b.getD (-1)) else 3) < 4 then (if os.any Option.isNone = true then 4 else if lenN (b.getD (-1)) > 3 then lenN (b.getD (-1)) else 3)
  else if lenN (b.getD (-1)) > 3 then lenN (b.getD (-1)) else 3
theorem lt9_of {D d J : Addr} {od oD : Obj} {rest : List (Addr × Obj)} (h : ∀ q ∈ (D, oD) :: (d, od) :: rest, q.1 < J) : (d : Nat) < J := h (d, od) (List.mem_cons_of_mem _ List.mem_cons_self)
section
variable {w : World} {mean : ExcName → Option Value} {mg mb : Str → Option Value} {dp un : Nat} {gd : Option (List Code)} {cn : Str} {cs : Scope} {a : Addr} {ccd : Value} {cl : List (Str × Addr)} {outer : List Env} {A₀ : Around} {base h₀ : Heap} {L : Addr} {m : Str → Option Value} {news : List (Addr × Obj)} {s : Shared}
    {Q E : Value → Shared → Prop}
    (B : Below A₀ base outer h₀) (F : Fr h₀ L s.heap m) (X : (hd.heap_39 w.params).In h₀) (N : News h₀ L s.heap news) (T : Top hd.view_39 Lo mean mg mb h₀) (hk : cs.kind = .function)
include B F X N T hk
theorem words_14 : True := by
  k_with_none
  (k_with "ne" => (first | k_extra "ne0" | k_extra "ne1"))
  (k_with "ne0" => (with_reducible first | assumption | exact Nat.succ_ne_self _ | exact (Nat.succ_ne_self _).symm | exact ne_off2 | exact ne_off2.symm | exact ne_off3 | exact ne_off3.symm | exact ne_off4 | exact ne_off4.symm | exact ne_off5 | exact ne_off5.symm))
  (k_with "ne1" => (((with_reducible rename _ ∧ _ => h9); first | (with_reducible first | exact h9.1.symm | exact Nat.ne_of_gt h9.1 | exact h9.1 | exact Nat.ne_of_lt h9.1 | exact h9.2.1.symm | exact Nat.ne_of_gt h9.2.1 | exact h9.2.1 | exact Nat.ne_of_lt h9.2.1 | exact h9.2.2.1.symm | exact Nat.ne_of_gt h9.2.2.1 | exact h9.2.2.1 | exact Nat.ne_of_lt h9.2.2.1 | exact h9.2.2.2.1.symm | exact Nat.ne_of_gt h9.2.2.2.1 | exact h9.2.2.2.1 | exact Nat.ne_of_lt h9.2.2.2.1 | exact h9.2.2.2.2.1.symm | exact Nat.ne_of_gt h9.2.2.2.2.1 | exact h9.2.2.2.2.1 | exact Nat.ne_of_lt h9.2.2.2.2.1 | exact h9.2.2.2.2.2.1.symm | exact Nat.ne_of_gt h9.2.2.2.2.2.1 | exact h9.2.2.2.2.2.1 | exact Nat.ne_of_lt h9.2.2.2.2.2.1 | exact h9.2.2.2.2.2.2.1.symm | exact Nat.ne_of_gt h9.2.2.2.2.2.2.1 | exact h9.2.2.2.2.2.2.1 | exact Nat.ne_of_lt h9.2.2.2.2.2.2.1 | exact h9.2.2.2.2.2.2.2.1.symm | exact Nat.ne_of_gt h9.2.2.2.2.2.2.2.1 | exact h9.2.2.2.2.2.2.2.1 | exact Nat.ne_of_lt h9.2.2.2.2.2.2.2.1 | exact h9.2.2.2.2.2.2.2.2.1.symm | exact Nat.ne_of_gt h9.2.2.2.2.2.2.2.2.1 | exact h9.2.2.2.2.2.2.2.2.1 | exact Nat.ne_of_lt h9.2.2.2.2.2.2.2.2.1 | exact h9.2.2.2.2.2.2.2.2.2.1.symm | exact Nat.ne_of_gt h9.2.2.2.2.2.2.2.2.2.1 | exact h9.2.2.2.2.2.2.2.2.2.1 | exact Nat.ne_of_lt h9.2.2.2.2.2.2.2.2.2.1 | exact h9.2.2.2.2.2.2.2.2.2.2.1.symm | exact Nat.ne_of_gt h9.2.2.2.2.2.2.2.2.2.2.1 | exact h9.2.2.2.2.2.2.2.2.2.2.1 | exact Nat.ne_of_lt h9.2.2.2.2.2.2.2.2.2.2.1 | exact h9.2.2.2.2.2.2.2.2.2.2.2.1.symm | exact Nat.ne_of_gt h9.2.2.2.2.2.2.2.2.2.2.2.1 | exact h9.2.2.2.2.2.2.2.2.2.2.2.1 | exact Nat.ne_of_lt h9.2.2.2.2.2.2.2.2.2.2.2.1 | exact h9.2.2.2.2.2.2.2.2.2.2.2.2.1.symm | exact Nat.ne_of_gt h9.2.2.2.2.2.2.2.2.2.2.2.2.1 | exact h9.2.2.2.2.2.2.2.2.2.2.2.2.1 | exact Nat.ne_of_lt h9.2.2.2.2.2.2.2.2.2.2.2.2.1 | exact h9.2.2.2.2.2.2.2.2.2.2.2.2.2.1.symm | exact Nat.ne_of_gt h9.2.2.2.2.2.2.2.2.2.2.2.2.2.1 | exact h9.2.2.2.2.2.2.2.2.2.2.2.2.2.1 | exact Nat.ne_of_lt h9.2.2.2.2.2.2.2.2.2.2.2.2.2.1 | exact h9.2.2.2.2.2.2.2.2.2.2.2.2.2.2.1.symm | exact Nat.ne_of_gt h9.2.2.2.2.2.2.2.2.2.2.2.2.2.2.1 | exact h9.2.2.2.2.2.2.2.2.2.2.2.2.2.2.1 | exact Nat.ne_of_lt h9.2.2.2.2.2.2.2.2.2.2.2.2.2.2.1 | exact h9.2.2.2.2.2.2.2.2.2.2.2.2.2.2.2.1.symm | exact Nat.ne_of_gt h9.2.2.2.2.2.2.2.2.2.2.2.2.2.2.2.1 | exact h9.2.2.2.2.2.2.2.2.2.2.2.2.2.2.2.1 | exact Nat.ne_of_lt h9.2.2.2.2.2.2.2.2.2.2.2.2.2.2.2.1) | (clear h9; k_extra "ne1"))))
  (k_with "my_enter" => ((refine' code_def ?k1 ?k2 ?k3 ?k4 ?k5 ?kA ?kF ?kK ?k6 ?k7 ?k8 ?k9 ?kB ?_ ?c2 ?c3 ?c4 ?c5; (case kA => exact rfl); (case kF => exact rfl); (case kK => assumption); (case k1 => k_asm); (case k2 => k_asm); (case k3 => k_asm); (case k4 => k_asm); (case k5 => k_asm); (case k6 => k_is); (case k7 => k_is); (case k8 => ktr_room); (case k9 => first | exact BindsTo.of_eq rfl | exact binds_K (by k_in) rfl (by k_is) rfl rfl rfl); (case c5 => decide); (case kB => exact locs rfl); (case c2 => exact rfl); (case c3 => exact rfl); (case c4 => exact rfl); k_whole; intro g' L' h' FG' F' N' B' X' T'; (try dsimp only); (try k_lift B'); (try k_fold))))
  (k_with "my call type:filter" => ((k_here; (with_reducible show wpAny _ _ (call (Value.type "filter") [Value.none, Value.ref _]) _ _ _); (refine call_filter (knd := PySem.intKind _ _) (by k_asm) (by k_asm) List.mem_cons_self (List.mem_cons_of_mem _ List.mem_cons_self) (by assumption) ?_); intro I9 J9 ep9 h9 F9 N9 lt9 hI9 hD9; (try dsimp only))))
  (k_with "my call builtin:max" => ((k_here; (show wpAny _ _ (call (Value.builtin "max") [Value.ref _] [(PySem.Str.ofString "default", Value.int _ _)]) _ _ _); (refine call_max_flt (knd := PySem.intKind _ _) rfl (by k_asm) (by k_asm) (by assumption) (by assumption) ?hd9 (by assumption) (by assumption) ?_); (case hd9 => exact lt9_of (by assumption)); intro b9 t9 h9 hb9 F9 N9; obtain ⟨wN, hwN⟩ : ∃ wN, wN = b9.getD (-1) := ⟨_, rfl⟩; have hwb := best_bound hb9 (by assumption); rw [← hwN] at hwb ⊢; (try dsimp only))))
  (k_with "my compareOp In none ref" => ((k_here; (with_reducible show wpAny _ _ (compareOp CmpOp.In Value.none (Value.ref _)) _ _ _); (refine in_values (knd := PySem.intKind _ _) rfl (by k_asm) (by k_asm) List.mem_cons_self (by k_mem) (by assumption) (by assumption) ?_); intro h9 F9 N9; (try dsimp only))))
  trivial
theorem width_spec {d : Addr} {od : Obj} {kvs : List (Int × Value)} {os : List (Option Int)} {rest : List (Addr × Obj)} (hnews : news = (d, od) :: rest) (hod : od.IsDictOf (PySem.intKind PySem.Challenge.rw_ik0034_01.row.prog w) kvs) (hvs : ValsOf kvs os) (hos : ∀ n, some n ∈ os → 1 ≤ n ∧ n ≤ 1000100) (lo : (d == sysModules) = false)
    (hdp : dp + 1 < recursionLimit) (hu : un + 8 < cLine)
    (hret : ∀ b t h' tk', BestOf os b → Fr h₀ L h' m → News h₀ L h' news → Q (.int (widthT os b) t) { s with heap := h', toks := tk' }) :
    wpAny (model PySem.Challenge.rw_ik0034_01.row.prog w) (ktrTop dp un gd cn cs L a ccd cl outer) (call (.ref 102) [.ref d]) Q E s := by
  subst hnews
  refine wpAny_call ?_
  k_dflt (k_extra "my_enter")
  k_steps
  all_goals
    rename News h₀ L _ _ => NZ
    rename BestOf os _ => hbz
    rename _ = Option.getD _ _ => hwz
    have h9 := fun t h' tk' => hret _ t h' tk' hbz
    unfold widthT lenN at h9
    rw [← hwz] at h9
  · rw [if_pos (by assumption)] at h9
    exact h9 _ _ _ (by assumption) (cb_drop NZ fun p hp => List.mem_cons_of_mem _ hp)
  · rw [if_neg (by assumption), if_pos (by assumption), if_pos (by assumption)] at h9
    exact h9 _ _ _ (by assumption) (cb_drop NZ fun p hp => List.mem_cons_of_mem _ (List.mem_cons_of_mem _ hp))
  · rw [if_neg (by assumption), if_pos (by assumption), if_neg (by rename _ = false => hF; rw [hF]; decide)] at h9
    exact h9 _ _ _ (by assumption) (cb_drop NZ fun p hp => List.mem_cons_of_mem _ (List.mem_cons_of_mem _ hp))
  · rw [if_neg (by assumption), if_neg (by assumption)] at h9
    exact h9 _ _ _ (by assumption) (cb_drop NZ fun p hp => List.mem_cons_of_mem _ hp)
end
end TextE6
end Mine
namespace Mine
section TextDCR
set_option maxRecDepth 100000
set_option maxHeartbeats 2000000
open PyProof.Rows.LCg
noncomputable def DTurn (h₀ : Heap) (L : Addr) (m : Str → Option Value) (s₁ : Shared) (I : Addr) (oI : Obj) (C : Addr) (oC : Obj) (D : Addr) (oD : Obj) (news : List (Addr × Obj)) (R : Prop) (s₂ : Shared) : Prop :=
  ∃ h' tk, s₂ = { s₁ with heap := h', toks := tk } ∧ Fr h₀ L h' m ∧ News h₀ L h' ((I, oI) :: (C, oC) :: (D, oD) :: news) ∧ R
theorem dturn_end {h₀ : Heap} {L : Addr} {m : Str → Option Value} {news : List (Addr × Obj)} {s₁ : Shared} {I C D : Addr} {oI oC oD : Obj} {R : Prop} {h' : Heap} {tk : Nat} {all : List (Addr × Obj)} (F : Fr h₀ L h' m) (N : News h₀ L h' all) (sub : ∀ p ∈ (I, oI) :: (C, oC) :: (D, oD) :: news, p ∈ all) (r : R) :
    DTurn h₀ L m s₁ I oI C oC D oD news R { s₁ with heap := h', toks := tk } := ⟨h', tk, rfl, F, fun p hp => N p (sub p hp), r⟩
noncomputable def FrontOf (f : Nat → Option Int) (kvs : List (Int × Value)) : Prop := ∀ (j : Nat) (k : Int) (v : Value), kvs[j]? = some (k, v) → k = 2 * (j : Int) ∧ ValOf (f j) v
theorem front_snoc {f : Nat → Option Int} {kvs : List (Int × Value)} (h : FrontOf f kvs) {y : Value} (hy : ValOf (f kvs.length) y) : stored kvs (2 * (kvs.length : Int)) y = kvs ++ [(2 * (kvs.length : Int), y)] ∧ FrontOf f (kvs ++ [(2 * (kvs.length : Int), y)]) := by
  constructor
  · unfold stored
    rw [if_neg]
    simp only [List.any_eq_true, decide_eq_true_eq, not_exists, not_and]
    intro x hx e
    obtain ⟨j, hj⟩ := List.mem_iff_getElem?.mp hx
    have lt : j < kvs.length := (List.getElem?_eq_some_iff.mp hj).1
    have := (h j x.1 x.2 hj).1
    omega
  · intro j k v hj
    by_cases lt : j < kvs.length
    · rw [List.getElem?_append_left lt] at hj
      exact h j k v hj
    · rw [List.getElem?_append_right (by omega)] at hj
      have e : j - kvs.length = 0 := by
        rcases Nat.eq_zero_or_pos (j - kvs.length) with e | e
        · exact e
        · rw [List.getElem?_eq_none (by simp; omega)] at hj; cases hj
      rw [e] at hj
      cases hj
      have : j = kvs.length := by omega
      rw [this]
      exact ⟨rfl, hy⟩
theorem front_vals {f : Nat → Option Int} {kvs : List (Int × Value)} (h : FrontOf f kvs) : ValsOf kvs ((List.range kvs.length).map f) := by
  refine ⟨by simp, fun i k v o h1 h2 => ?_⟩
  have lt : i < kvs.length := (List.getElem?_eq_some_iff.mp h1).1
  have : o = f i := by
    rw [List.getElem?_map, List.getElem?_range lt] at h2
    exact (Option.some.inj h2).symm
  rw [this]
  exact (h i k v h1).2
section
variable {prog : Program} {w : World} {A : Around} {E : Value → Shared → Prop} {s : Shared} {h₀ : Heap} {L : Addr} {m : Str → Option Value} {env : Env}
theorem block_D {kx vx iter : Expr} {x : Str} {px : Pos} {scope : Scope} {cl : List (Str × Addr)} {pos : Pos} {s₂ : Shared} {I : Addr} {n : Nat} {news : List (Addr × Obj)} (f : Nat → Option Int) {RR : Value → Addr → Result → Shared → Prop}
    (hh : A.handled = none) (hsz : n ≤ sizeLine) (hcell : ∀ y ∈ scope.names, y.2 ≠ .cell) (hkind : scope.kind = .function) (hx : scope.names.lookup x = some .local)
    (hst : IsRangeIter s₂.heap I (0 + ((0 : Nat) : Int) * 1) ((n : Int) - ((0 : Nat) : Int)) 1)
    (F : Fr h₀ L s₂.heap m) (N : News h₀ L s₂.heap news) (hIL : L ≠ I) (hI₀ : h₀.get? I = none) (off : ∀ p ∈ news, p.1 ≠ I)
    (turn : ∀ (i : Nat) I oI C oC D oD m₂ h tk t (E' : Value → Shared → Prop), i < n → NsObj oC m₂ → m₂ x = some (.int (0 + (i : Int)) t) → Fr h₀ L h m → News h₀ L h ((I, oI) :: (C, oC) :: (D, oD) :: news) → Off3 I C D news → ((@Ne Nat I C) ∧ (@Ne Nat I D) ∧ (@Ne Nat C D)) →
      wpAny (model prog w) A (eval kx (compEnvC scope cl C env)) (fun key s₃ => wpAny (model prog w) A (eval vx (compEnvC scope cl C env)) (fun y s₄ => DTurn h₀ L m { s₂ with heap := h, toks := tk } I oI C oC D oD news ((∃ u, key = .int (2 * (i : Int)) u) ∧ ValOf (f i) y) s₄) E' s₃) E' { s₂ with heap := h, toks := tk })
    (hRR : ∀ D C h tk m' oD kvs, Fr h₀ L h m → News h₀ L h ((D, oD) :: news) → oD.IsDictOf (PySem.intKind prog w) kvs → h.Ns C m' → h₀.get? C = none → h₀.get? D = none → C ≠ L → D ≠ L → C ≠ D → (∀ p ∈ news, p.1 < D) → (∀ p ∈ news, p.1 ≠ C) → kvs.length = n → ValsOf kvs ((List.range n).map f) → RR (.ref D) C (.ok .next) { s₂ with heap := h, toks := tk }) :
    wpAny (model prog w) A newDict (fun acc s₃ => wpAny (model prog w) A (newFunctionEnv scope env.globals cl [] env.qual none .none (some env)) (fun cenv s₄ =>
      codeAny (model prog w) A (.compStart (.DictComp kx vx [⟨.Name x px, iter, [], 0⟩] scope pos) 0 (.ref I) acc { cenv with scope := relabel scope env }) (RR acc cenv.locals) s₄) E s₃) E s₂ := by
  have W := range_walks (prog := prog) (w := w) (A := A) (I := I) hh 0 n
  refine wpAny_newObj_type (wpAny_newFunctionEnv hcell (by intro y hy; simp at hy) (fun h₁ hns₁ hsb₁ => ?_) hkind)
  dsimp only at hns₁ hsb₁ ⊢
  have hnew : (s₂.heap.push { cls := .type "dict", dict := none, data := .dict #[] }).DictOf (PySem.intKind prog w) s₂.heap.objs.size [] := Heap.DictOf.new s₂.heap
  generalize hH2 : s₂.heap.push { cls := .type "dict", dict := none, data := .dict #[] } = H2 at hns₁ hsb₁ hnew ⊢
  have hC : H2.objs.size = s₂.heap.objs.size + 1 := by rw [← hH2, Heap.size_push]
  have hDC : s₂.heap.objs.size ≠ H2.objs.size := by rw [hC]; exact Nat.ne_of_lt (Nat.lt_succ_self _)
  have below : ∀ b, b < s₂.heap.objs.size → b ≠ H2.objs.size ∧ b ≠ s₂.heap.objs.size := fun b hb => ⟨by rw [hC]; exact Nat.ne_of_lt (Nat.lt_succ_of_lt hb), Nat.ne_of_lt hb⟩
  have hIlt : I < s₂.heap.objs.size := Heap.lt_size hst
  have old : ∀ b o, s₂.heap.get? b = some o → h₁.get? b = some o := fun b o e => hsb₁.extBut b o (below b (Heap.lt_size e)).1 (Heap.get?_push_of_some _ (hH2 ▸ Heap.get?_push_of_some _ e))
  obtain ⟨oD₁, hD₁, hoD₁⟩ := Heap.dictOf_iff.mp (hnew.at (h' := h₁) fun o e => hsb₁.extBut _ _ hDC (Heap.get?_push_of_some _ e))
  have fresh₀ : ∀ a, s₂.heap.objs.size ≤ a → h₀.get? a = none := fun a ha => by
    cases e : h₀.get? a with
    | none => rfl
    | some o' => exact absurd (Heap.lt_size (F.keep a o' e)) (Nat.not_lt.mpr ha)
  have hD₀ : h₀.get? s₂.heap.objs.size = none := fresh₀ _ (Nat.le_refl _)
  have hC₀ : h₀.get? H2.objs.size = none := fresh₀ _ (by rw [hC]; exact Nat.le_succ _)
  have hLlt : L < s₂.heap.objs.size := F.ns.lt
  have hDL : s₂.heap.objs.size ≠ L := Ne.symm (below L hLlt).2
  have hCL : H2.objs.size ≠ L := Ne.symm (below L hLlt).1
  have hCI : I ≠ H2.objs.size := (below I hIlt).1
  have hDI : I ≠ s₂.heap.objs.size := (below I hIlt).2
  have ltD : ∀ p ∈ news, p.1 < s₂.heap.objs.size := fun p hp => Heap.lt_size (N p hp).1
  have off₀ : Off3 I H2.objs.size s₂.heap.objs.size news := Off3.of fun p hp => ⟨off p hp, (below _ (ltD p hp)).1, (below _ (ltD p hp)).2⟩
  have off3 := off₀.mem
  have loop : ∀ s₃ : Shared, s₃ = { s₂ with heap := h₁, toks := s₂.toks + ([] : List (Str × Value)).length } →
      codeAny (model prog w) A (.compLoop (.DictComp kx vx [⟨.Name x px, iter, [], 0⟩] scope pos) 0 (.ref I) (.ref s₂.heap.objs.size) (compEnvC scope cl H2.objs.size env))
        (RR (.ref s₂.heap.objs.size) H2.objs.size) s₃ := by
    rintro s₃ rfl
    refine codeAny_compLoop_testsD
      (fun k s' => ∃ h' tk i kvs m' oD, s' = { s₂ with heap := h', toks := tk } ∧ i ≤ n ∧ k = n + 1 - i ∧ kvs.length = i ∧ IsRangeIter h' I (0 + (i : Nat) * 1) ((n : Int) - (i : Nat)) 1 ∧ Fr h₀ L h' m ∧ h'.Ns H2.objs.size m' ∧ News h₀ L h' ((s₂.heap.objs.size, oD) :: news) ∧
        oD.IsDictOf (PySem.intKind prog w) kvs ∧ FrontOf f kvs) ?_ (n + 1)
      ⟨h₁, _, 0, [], _, oD₁, rfl, Nat.zero_le _, rfl, rfl, old _ _ hst, F.keeps old, hns₁, fun p hp => ?_, hoD₁, fun j k v h => nomatch h⟩
    · rintro k s' ⟨h', tk, i, kvs, m', oD, rfl, hi, rfl, hkl, hst', F', hn', N', hoD, hfr⟩
      by_cases hlt : i < n
      · refine W.item i _ _ _ hlt hst' fun v h₂ tk₂ hPv hst₂ hk₂ => ?_
        obtain ⟨t, rfl⟩ := hPv
        refine wpAny_assign_Name (wpAny_storeName_local (lookup_relabel_local hx) (hn'.at' fun o e => hk₂ _ o (by simpa using Ne.symm hCI) e) (fun h₃ hn₃ hs₃ => ?_) (by simp [compEnvC, relabel, hkind]))
        refine wpAny_tests_nil ?_
        simp only [if_true]
        have heI : h₃.get? I = _ := hs₃.extBut I _ hCI hst₂
        obtain ⟨oC, heC, hoC⟩ := ns_obj hn₃
        have F₃ : Fr h₀ L h₃ m := (fr_but F' hk₂ hIL hI₀).change hs₃ hCL hC₀
        have N₂ : News h₀ L h₂ ((s₂.heap.objs.size, oD) :: news) := news_but N' hk₂ fun p hp => by
          rcases List.mem_cons.mp hp with rfl | hp
          · exact Ne.symm hDI
          · exact (off3 p hp).1
        have N₃ : News h₀ L h₃ ((I, _) :: (H2.objs.size, oC) :: (s₂.heap.objs.size, oD) :: news) := fun p hp => by
          rcases List.mem_cons.mp hp with rfl | hp
          · exact ⟨heI, Ne.symm hIL, hI₀⟩
          · rcases List.mem_cons.mp hp with rfl | hp
            · exact ⟨heC, hCL, hC₀⟩
            · have z := N₂ p hp
              refine ⟨hs₃.extBut _ _ ?_ z.1, z.2⟩
              rcases List.mem_cons.mp hp with rfl | hp
              · exact hDC
              · exact (off3 p hp).2.1
        refine wpAny_mono (turn i I _ H2.objs.size oC s₂.heap.objs.size oD _ h₃ _ t _ hlt hoC (by simp) F₃ N₃ off₀ ⟨hCI, hDI, Ne.symm hDC⟩) (fun key s₄ h₄ => ?_) fun _ _ e => e
        refine wpAny_mono h₄ (fun y s₅ h₅ => ?_) fun _ _ e => e
        obtain ⟨h₅, tk₅, rfl, F₅, N₅, ⟨u, rfl⟩, hy⟩ := h₅
        have zI := (N₅ (I, _) List.mem_cons_self).1
        have zC := (N₅ (H2.objs.size, oC) (List.mem_cons_of_mem _ List.mem_cons_self)).1
        have zD := (N₅ (s₂.heap.objs.size, oD) (List.mem_cons_of_mem _ (List.mem_cons_of_mem _ List.mem_cons_self))).1
        have ek : (2 * (i : Int)) = 2 * (kvs.length : Int) := by rw [hkl]
        rw [ek, ← hkl] at *
        obtain ⟨es, ef⟩ := front_snoc hfr hy
        refine wpAny_dictSet_pairs (hsz := by omega) (knd := PySem.intKind prog w) (k := 2 * (kvs.length : Int)) (PySem.intKind_is _ _ _ _) (Heap.dictOf_iff.mpr ⟨oD, zD, hoD⟩) fun h₆ hl₆ hs₆ => ?_
        obtain ⟨oD₆, zD₆, hoD₆⟩ := Heap.dictOf_iff.mp hl₆
        rw [es] at hoD₆
        refine ⟨n + 1 - (kvs.length + 1), by omega, h₆, _, kvs.length + 1, _, _, oD₆, rfl, hlt, rfl, by rw [List.length_append, List.length_singleton], hs₆.extBut I _ hDI zI, F₅.change hs₆ hDL hD₀, (hoC.ns zC).sameBut hs₆ (Ne.symm hDC), fun p hp => ?_, hoD₆, ef⟩
        rcases List.mem_cons.mp hp with rfl | hp
        · exact ⟨zD₆, hDL, hD₀⟩
        · have z := N₅ p (List.mem_cons_of_mem _ (List.mem_cons_of_mem _ (List.mem_cons_of_mem _ hp)))
          exact ⟨hs₆.extBut _ _ (off3 p hp).2.2 z.1, z.2⟩
      · obtain rfl : i = n := Nat.le_antisymm hi (Nat.not_lt.mp hlt)
        refine W.done _ _ _ hst' fun h₂ tk₂ hk₂ => ?_
        refine hRR _ _ h₂ tk₂ _ oD kvs (fr_but F' hk₂ hIL hI₀) (news_but N' hk₂ fun p hp => by
          rcases List.mem_cons.mp hp with rfl | hp
          · exact Ne.symm hDI
          · exact (off3 p hp).1) hoD (hn'.at' fun o e => hk₂ _ o (by simpa using Ne.symm hCI) e) hC₀ hD₀ hCL hDL (Ne.symm hDC) ltD (fun p hp => (off3 p hp).2.1) hkl ?_
        rw [← hkl]
        exact front_vals hfr
    · rcases List.mem_cons.mp hp with rfl | hp
      · exact ⟨hD₁, hDL, hD₀⟩
      · exact ⟨old _ _ (N p hp).1, (N p hp).2⟩
  exact codeAny_compStart_dict (loop _ rfl) (W.self 0 _ _ _ (old _ _ hst) (loop _ rfl))

/-- where the source of the dict's comprehension has been reckoned -/
noncomputable def DSrc (prog : Program) (w : World) (A : Around) (h₀ : Heap) (L : Addr) (m : Str → Option Value) (env : Env) (kx vx : Expr) (x : Str) (scope : Scope) (cl : List (Str × Addr)) (Q : Value → Shared → Prop) (xv : Value) (s₁ : Shared) : Prop :=
  ∃ (r : Addr) (b : Int) (t u v : Tok) (n : Nat) (news : List (Addr × Obj)) (f : Nat → Option Int), xv = .ref r ∧ A.handled = none ∧ Fr h₀ L s₁.heap m ∧ News h₀ L s₁.heap news ∧ IsRange s₁.heap r 0 b 1 t u v ∧ Builtin.Range.small 0 b 1 = true ∧ Builtin.Range.rangeSize 0 b 1 = ((n : Nat) : Int) ∧ n ≤ sizeLine ∧
    (∀ g, ∀ (i : Nat) I oI C oC D oD m₂ h tk t (E' : Value → Shared → Prop), i < n → NsObj oC m₂ → m₂ x = some (.int (0 + (i : Int)) t) → Fr h₀ L h m → News h₀ L h ((I, oI) :: (C, oC) :: (D, oD) :: news) → Off3 I C D news → ((@Ne Nat I C) ∧ (@Ne Nat I D) ∧ (@Ne Nat C D)) →
      wpAny (model prog w) A (eval kx (compEnvC scope cl C env)) (fun key s₃ => wpAny (model prog w) A (eval vx (compEnvC scope cl C env)) (fun y s₄ => DTurn h₀ L m { ({ s₁ with heap := g } : Shared) with heap := h, toks := tk } I oI C oC D oD news ((∃ u, key = .int (2 * (i : Int)) u) ∧ ValOf (f i) y) s₄) E' s₃) E' { ({ s₁ with heap := g } : Shared) with heap := h, toks := tk }) ∧
    (∀ D oD kvs h tk, Fr h₀ L h m → News h₀ L h ((D, oD) :: news) → oD.IsDictOf (PySem.intKind prog w) kvs → (∀ p ∈ news, p.1 < D) → kvs.length = n → ValsOf kvs ((List.range n).map f) → Q (.ref D) { s₁ with heap := h, toks := tk })
theorem DSrc.range {kx vx : Expr} {x : Str} {scope : Scope} {cl : List (Str × Addr)} {Q : Value → Shared → Prop} {r : Addr} {b : Int} {t u v : Tok} {n : Nat} {news : List (Addr × Obj)} {s₁ : Shared} (f : Nat → Option Int)
    (hh : A.handled = none) (F : Fr h₀ L s₁.heap m) (N : News h₀ L s₁.heap news) (hr : IsRange s₁.heap r 0 b 1 t u v) (hsm : Builtin.Range.small 0 b 1 = true) (hn : Builtin.Range.rangeSize 0 b 1 = ((n : Nat) : Int)) (hsz : n ≤ sizeLine)
    (turn : ∀ g, ∀ (i : Nat) I oI C oC D oD m₂ h tk t (E' : Value → Shared → Prop), i < n → NsObj oC m₂ → m₂ x = some (.int (0 + (i : Int)) t) → Fr h₀ L h m → News h₀ L h ((I, oI) :: (C, oC) :: (D, oD) :: news) → Off3 I C D news → ((@Ne Nat I C) ∧ (@Ne Nat I D) ∧ (@Ne Nat C D)) →
      wpAny (model prog w) A (eval kx (compEnvC scope cl C env)) (fun key s₃ => wpAny (model prog w) A (eval vx (compEnvC scope cl C env)) (fun y s₄ => DTurn h₀ L m { ({ s₁ with heap := g } : Shared) with heap := h, toks := tk } I oI C oC D oD news ((∃ u, key = .int (2 * (i : Int)) u) ∧ ValOf (f i) y) s₄) E' s₃) E' { ({ s₁ with heap := g } : Shared) with heap := h, toks := tk })
    (done : ∀ D oD kvs h tk, Fr h₀ L h m → News h₀ L h ((D, oD) :: news) → oD.IsDictOf (PySem.intKind prog w) kvs → (∀ p ∈ news, p.1 < D) → kvs.length = n → ValsOf kvs ((List.range n).map f) → Q (.ref D) { s₁ with heap := h, toks := tk }) :
    DSrc prog w A h₀ L m env kx vx x scope cl Q (.ref r) s₁ := ⟨r, b, t, u, v, n, news, f, rfl, hh, F, N, hr, hsm, hn, hsz, turn, done⟩
theorem DictComp_R {kx vx iter : Expr} {x : Str} {px : Pos} {scope : Scope} {cl : List (Str × Addr)} {pos : Pos} {Q : Value → Shared → Prop} (_F₀ : Fr h₀ L s.heap m)
    (hclos : closureFor scope env = pure cl) (hcell : ∀ y ∈ scope.names, y.2 ≠ .cell) (hkind : scope.kind = .function)
    (hnames : ∀ y ∈ scope.names, y.2 = .local → scope.names.lookup y.1 = some .local) (hx : scope.names.lookup x = some .local)
    (h : wpAny (model prog w) A (eval iter env) (DSrc prog w A h₀ L m env kx vx x scope cl Q) E s)
    (hs : ∀ x, foldedSetIterable iter env x = pure x := by intro _; rfl) :
    wpAny (model prog w) A (eval (.DictComp kx vx [⟨.Name x px, iter, [], 0⟩] scope pos) env) Q E s := by
  rw [arm_eval_DictComp]
  refine wpAny_comprehension_free (use := none) rfl hs hclos hkind hnames (wpAny_mono h (fun xv s₁ h₁ => ?_) fun _ _ e => e)
  obtain ⟨r, b, t, u, v, n, news, f, rfl, hh, F, N, hr, hsm, hn, hsz, turn, done⟩ := h₁
  refine wpAny_pyIter_range hr hsm ?_
  refine block_D f hh hsz hcell hkind hx (by show IsRangeIter _ _ _ _ _; rw [hn]; simpa using Heap.get?_push_size _ rfl) (F.keeps fun _ _ e => Heap.get?_push_of_some _ e) (N.grown fun _ _ e => Heap.get?_push_of_some _ e) (Nat.ne_of_lt F.ns.lt) (next_is_new F) (fun p hp => Nat.ne_of_lt (Heap.lt_size (N p hp).1)) (turn _) ?_
  intro D C h tk m' oD kvs F' N' ho hns hC₀ hD₀ hCL hDL hCD ltD offC hkl hv
  refine ⟨m', hns, fun h'' hs'' => done D oD kvs h'' tk (F'.change hs'' hCL hC₀) (fun p hp => ?_) ho ltD hkl hv⟩
  refine ⟨hs''.extBut _ _ ?_ (N' p hp).1, (N' p hp).2⟩
  rcases List.mem_cons.mp hp with rfl | hp
  · exact Ne.symm hCD
  · exact offC p hp
end
end TextDCR
end Mine
namespace Mine
section TextLB
set_option maxRecDepth 100000
set_option maxHeartbeats 1000000
noncomputable def NumV : Option Int → Value → Prop
  | none, v => v = .none
  | some n, v => ∃ t, v = .int n t
noncomputable abbrev tupO (nv : Value) (x : Str) (t : Tok) (n : Nat) : Obj := { cls := .type "tuple", data := .seq #[nv, .str x t] n }
structure ItemAt (vs : List Value) (k : Int) (x : Value) : Prop where
  place : (0 ≤ k ∧ k < vs.length) ∨ (k < 0 ∧ -(vs.length : Int) ≤ k)
  val : vs[(if k < 0 then k + vs.length else k).toNat]? = some x
  small : vs.length < 1000
theorem rows_at {tl cells : List (Addr × Obj)} {its : List Value} {rows : List (Option Int × Str)} (h : DatAll (tl ++ cells) its (rows.map rowDat)) (hc : ∀ p ∈ cells, ∃ cv, p.2.data = .cell cv) {j : Nat} {r : Option Int × Str} (hr : rows[j]? = some r) :
    ∃ T nv t n, its[j]? = some (.ref T) ∧ (T, tupO nv r.2 t n) ∈ tl ∧ NumV r.1 nv := by
  obtain ⟨hj, e⟩ := List.getElem?_eq_some_iff.mp hr
  obtain ⟨v, hv, hd⟩ := h.get (k := j) (by rw [List.length_map]; exact hj)
  rw [List.getElem_map, e] at hd
  unfold rowDat at hd
  generalize hq : [numDat r.1, Dat.str r.2] = ds at hd
  cases hd with
  | @tuple T vs n ds hm hall =>
    subst hq
    cases hall with
    | @cons nv vs' d ds' h1 h2 =>
      cases h2 with
      | @cons sv vs'' d' ds'' h3 h4 =>
        cases h4
        cases h3 with
        | str _ t =>
          refine ⟨T, nv, t, n, hv, ?_, ?_⟩
          · rcases List.mem_append.mp hm with hm | hm
            · exact hm
            · obtain ⟨cv, hcv⟩ := hc _ hm
              cases hcv
          · generalize r.1 = o at h1
            cases o with
            | none => cases h1; rfl
            | some k => cases h1 with | int _ t => exact ⟨t, rfl⟩
section
variable {prog : Program} {w : World} {A : Around} {E : Value → Shared → Prop} {s : Shared} {h₀ : Heap} {L : Addr} {m : Str → Option Value} {news : List (Addr × Obj)}
theorem item_any {value slice : Expr} {l : Addr} {vs : List Value} {nn : Nat} {k : Int} {u : Tok} {x : Value} {Q : Value → Shared → Prop} (N : News h₀ L s.heap news) (hm : (l, listOf vs.toArray nn) ∈ news) (hi : ItemAt vs k x) (h : Q x s)
    (hs : subscripted slice false (.ref l) (.int k u) = operate [.ref l, .int k u] (getItem (.ref l) (.int k u)) := by with_unfolding_all rfl) :
    wpAny (model prog w) A (subscriptTail value slice (.ref l) (.int k u)) Q E s := by
  have hl : s.heap.IsList l vs.toArray := News.isList N hm
  have hz := hi.small
  rcases hi.place with ⟨h0, h1⟩ | ⟨h0, h1⟩
  · have hv := hi.val
    rw [if_neg (by omega)] at hv
    exact tail_any hl.typeIs slot_list_getitem.lookup (wpAny_getItem_list hl h0 (by omega) (by simpa using hv) h) hs
  · have hv := hi.val
    rw [if_pos h0] at hv
    exact tail_any hl.typeIs slot_list_getitem.lookup (wpAny_getItem_list_neg hl h0 (by simpa using h1) (by omega) (by simpa using hv) h) hs
theorem len_any {l : Addr} {vs : List Value} {nn : Nat} {Q : Value → Shared → Prop} (N : News h₀ L s.heap news) (hm : (l, listOf vs.toArray nn) ∈ news) (hz : vs.length ≤ 1000) (h : ∀ t tk, Q (.int vs.length t) { s with toks := tk }) :
    wpAny (model prog w) A (call (.builtin "len") [.ref l]) Q E s :=
  len_list (News.isList N hm) (by rw [List.size_toArray]; omega) (by rw [List.size_toArray]; exact h _ _)
theorem tup_0 {value slice : Expr} {T : Addr} {nv : Value} {x : Str} {t u : Tok} {n : Nat} {Q : Value → Shared → Prop} (N : News h₀ L s.heap news) (hm : (T, tupO nv x t n) ∈ news) (h : Q nv s)
    (hs : subscripted slice false (.ref T) (.int 0 u) = operate [.ref T, .int 0 u] (getItem (.ref T) (.int 0 u)) := by with_unfolding_all rfl) :
    wpAny (model prog w) A (subscriptTail value slice (.ref T) (.int 0 u)) Q E s :=
  item_tupleT (l := [nv, .str x t]) (j := 0) ⟨_, (N _ hm).1, rfl, _, rfl⟩ (by decide) (by decide) rfl rfl h hs
theorem tup_1 {value slice : Expr} {T : Addr} {nv : Value} {x : Str} {t u : Tok} {n : Nat} {Q : Value → Shared → Prop} (N : News h₀ L s.heap news) (hm : (T, tupO nv x t n) ∈ news) (h : Q (.str x t) s)
    (hs : subscripted slice false (.ref T) (.int 1 u) = operate [.ref T, .int 1 u] (getItem (.ref T) (.int 1 u)) := by with_unfolding_all rfl) :
    wpAny (model prog w) A (subscriptTail value slice (.ref T) (.int 1 u)) Q E s :=
  item_tupleT (l := [nv, .str x t]) (j := 1) ⟨_, (N _ hm).1, rfl, _, rfl⟩ (by decide) (by decide) rfl rfl h hs
end
/-- the number of the line that the law's dict bears at place i -/
noncomputable def back (n i : Nat) : Nat := if i = 0 then 0 else n - i
noncomputable def numAt (rows : List (Option Int × Str)) (i : Nat) : Option Int := ((rows[back rows.length i]?).map (·.1)).getD none
theorem item_back {its : List Value} {v : Value} {i : Nat} (hz : its.length < 1000) (hi : i < its.length) (hv : its[back its.length i]? = some v) : ItemAt its (-(0 + (i : Int))) v := by
  unfold back at hv
  refine ⟨by omega, ?_, hz⟩
  by_cases h : i = 0
  · subst h
    rw [if_pos rfl] at hv
    simpa using hv
  · rw [if_neg h] at hv
    rw [if_pos (by omega)]
    have : (-(0 + (i : Int)) + (its.length : Int)).toNat = its.length - i := by omega
    rw [this]; exact hv
theorem item_fore {its : List Value} {v : Value} {i : Nat} (hz : its.length < 1000) (hv : its[i]? = some v) : ItemAt its (0 + (i : Int)) v := by
  have := (List.getElem?_eq_some_iff.mp hv).1
  refine ⟨by omega, ?_, hz⟩
  rw [if_neg (by omega)]
  have : (0 + (i : Int)).toNat = i := by omega
  rw [this]; exact hv
theorem back_lt {n i : Nat} (h : i < n) : back n i < n := by unfold back; split <;> omega
theorem numAt_mem {rows : List (Option Int × Str)} (o : Option Int) : o ∈ (List.range rows.length).map (numAt rows) ↔ o ∈ rows.map (·.1) := by
  constructor
  · intro h
    obtain ⟨i, hi, rfl⟩ := List.mem_map.mp h
    have hb := back_lt (List.mem_range.mp hi)
    unfold numAt
    rw [List.getElem?_eq_getElem hb]
    exact List.mem_map.mpr ⟨_, List.getElem_mem hb, rfl⟩
  · intro h
    obtain ⟨r, hr, rfl⟩ := List.mem_map.mp h
    obtain ⟨j, hj, rfl⟩ := List.getElem_of_mem hr
    refine List.mem_map.mpr ⟨back rows.length j, List.mem_range.mpr (back_lt hj), ?_⟩
    have : back rows.length (back rows.length j) = j := by unfold back; split <;> (try split) <;> omega
    unfold numAt
    rw [this, List.getElem?_eq_getElem hj]
    rfl
theorem numV_val {o : Option Int} {v : Value} (h : NumV o v) (hp : ∀ n, o = some n → 1 ≤ n ∧ n ≤ 1000100) : ValOf o v := by
  cases o with
  | none => exact h
  | some n =>
    obtain ⟨t, rfl⟩ := h
    have := hp n rfl
    exact ⟨by omega, t, rfl⟩
theorem row_of {total : Int} {ns : List Int} {rows : List (Option Int × Str)} (hro : RowsOf total ([8, 62, 122, 4] ++ List.take 5 ns) rows) (hl : rows.length = 4 + min 5 ns.length) {j : Nat} {r : Option Int × Str} (hr : rows[j]? = some r) :
    ∃ x, RowOf total x r := by
  have hj : j < rows.length := (List.getElem?_eq_some_iff.mp hr).1
  have hx : j < ([8, 62, 122, 4] ++ List.take 5 ns).length := by simp; omega
  exact ⟨_, hro j _ r (List.getElem?_eq_getElem hx) hr⟩
theorem numAt_of {rows : List (Option Int × Str)} {i : Nat} {r : Option Int × Str} (h : rows[back rows.length i]? = some r) : numAt rows i = r.1 := by unfold numAt; rw [h]; rfl
end TextLB
end Mine
namespace Mine
section TextCGP
set_option maxRecDepth 100000
set_option maxHeartbeats 1000000
section
variable {prog : Program} {w : World} {A : Around} {h₀ : Heap} {L : Addr} {m : Str → Option Value} {env : Env} {elt : Expr} {x x₂ : Str} {scope : Scope} {cl : List (Str × Addr)} {s : Shared} {S : List (Addr × Obj) → Prop} {P : Nat → Value → Prop} {Fin : List Value → List (Addr × Obj) → Prop} {news : List (Addr × Obj)}
/-- turns of a comprehension that unpacks a pair, by an invariant -/
theorem comp_goP {n : Nat} (Inv : Nat → List Value → Prop) (RR : Nat → Value → Str → Prop) (h0 : Inv 0 []) (hS : S news)
    (src : ∀ i v, i < n → P i v → ∃ T nv y t k, v = .ref T ∧ (T, tupO nv y t k) ∈ news ∧ RR i nv y)
    (turn : ∀ i nv y t ys I oI C oC D m₂ h tk (E' : Value → Shared → Prop), i < n → RR i nv y → Inv i ys → LCg.NsObj oC m₂ → m₂ x = some nv → m₂ x₂ = some (.str y t) → Fr h₀ L h m → News h₀ L h ((I, oI) :: (C, oC) :: (D, LCg.lst ys) :: news) → LCg.Off3 I C D news → ((@Ne Nat I C) ∧ (@Ne Nat I D) ∧ (@Ne Nat C D)) →
      wpAny (model prog w) A (eval elt (compEnvC scope cl C env)) (TurnEnd h₀ L m { s with heap := h, toks := tk } I oI C oC D (LCg.lst ys) news (fun y => Inv (i + 1) (ys ++ [y]))) E' { s with heap := h, toks := tk })
    (fin : ∀ ys, Inv n ys → Fin ys news) : LCp.CompRestP prog w A h₀ L m env elt x x₂ scope cl s S P Fin n 0 [] news := by
  have key : ∀ (j i : Nat) (ys : List Value), i + j = n → Inv i ys → LCp.CompRestP prog w A h₀ L m env elt x x₂ scope cl s S P Fin j i ys news := by
    intro j
    induction j with
    | zero =>
      intro i ys hi hy
      have e : i = n := by omega
      subst e
      exact LCp.CompRestP.zero (fin ys hy)
    | succ j ih =>
      intro i ys hi hy
      refine LCp.CompRestP.succ ?_
      intro v hv
      obtain ⟨T, nv, y, t, k, rfl, hm, hr⟩ := src i v (by omega) hv
      refine ⟨T, _, nv, .str y t, k, rfl, hm, rfl, rfl, ?_⟩
      intro I oI C oC D m₂ h tk E' hC hx hx2 F N off ne
      refine wpAny_mono (turn i nv y t ys I oI C oC D m₂ h tk E' (by omega) hr hy hC hx hx2 F N off ne) (fun y s₂ hq => ?_) fun _ _ e => e
      obtain ⟨h', tk', e, F', N', r⟩ := hq
      exact ⟨h', tk', news, e, F', N', off, hS, ih (i + 1) _ (by omega) r⟩
  exact key n 0 [] (by omega) h0
end
noncomputable def labelT : Option Int → Str
  | none => Str.ofString "  --"
  | some n => Str.ofString (toString n)
theorem labels_snoc {ls : List (Str × Tok)} {rows : List (Option Int × Str)} {i : Nat} {r : Option Int × Str} {t : Tok} (h : ls.map (·.1) = (rows.take i).map (fun r => labelT r.1)) (hr : rows[i]? = some r) :
    (ls ++ [(labelT r.1, t)]).map (·.1) = (rows.take (i + 1)).map (fun r => labelT r.1) := by
  rw [List.map_append, h, List.take_add_one, hr, List.map_append]; rfl
/-- where a test has been reckoned that is shown false -/
noncomputable def TestEnd (h₀ : Heap) (L : Addr) (m : Str → Option Value) (s : Shared) (news : List (Addr × Obj)) (b : Bool) (s' : Shared) : Prop :=
  b = false ∧ ∃ h' tk, s' = { s with heap := h', toks := tk } ∧ Fr h₀ L h' m ∧ News h₀ L h' news
theorem test_end {h₀ : Heap} {L : Addr} {m : Str → Option Value} {s : Shared} {news all : List (Addr × Obj)} {b : Bool} {h' : Heap} {tk : Nat} (hb : b = false) (F : Fr h₀ L h' m) (N : News h₀ L h' all) (sub : ∀ p ∈ news, p ∈ all) : TestEnd h₀ L m s news b { s with heap := h', toks := tk } :=
  ⟨hb, h', tk, rfl, F, fun p hp => N p (sub p hp)⟩
theorem test_join {M : Model} {A : Around} {E : Value → Shared → Prop} {s : Shared} {h₀ : Heap} {L : Addr} {m : Str → Option Value} {news : List (Addr × Obj)} {tree : Sem Bool} {Q : Bool → Shared → Prop} (F : Fr h₀ L s.heap m) (N : News h₀ L s.heap news)
    (test : wpAny M A tree (TestEnd h₀ L m s news) E s) (rest : ∀ h' tk', Fr h₀ L h' m → News h₀ L h' news → Q false { s with heap := h', toks := tk' }) : wpAny M A tree Q E s :=
  wpAny_mono test (fun b s' hb => by obtain ⟨rfl, h', tk', rfl, F', N'⟩ := hb; exact rest h' tk' F' N') fun _ _ e => e
end TextCGP
end Mine
namespace Mine
section TextPLN
set_option maxRecDepth 100000
set_option maxHeartbeats 1000000
theorem num_form {n : Int} (h : 1 ≤ n) : (Str.ofString (toString n)).length = (Nat.toDigits 10 n.toNat).length := by
  obtain ⟨k, rfl⟩ : ∃ k : Nat, n = (k : Int) := ⟨n.toNat, by omega⟩
  have e := text_ofNat k
  rw [show ((k : Nat) : Int) = Int.ofNat k from rfl, e]
  show (((Nat.toDigits 10 k).map Char.toNat).toArray).size = _
  rw [List.size_toArray, List.length_map]
  rfl
theorem num_len_mono {m n : Int} (h1 : 1 ≤ m) (h : m ≤ n) : (Str.ofString (toString m)).length ≤ (Str.ofString (toString n)).length := by
  rw [num_form h1, num_form (by omega)]
  rcases Nat.lt_or_ge (Nat.toDigits 10 m.toNat).length 2 with h2 | h2
  · have := tDigits_len_ge 10 n.toNat
    omega
  · obtain ⟨k, hk⟩ : ∃ k, (Nat.toDigits 10 m.toNat).length = k + 1 := ⟨(Nat.toDigits 10 m.toNat).length - 1, by omega⟩
    have hge : 10 ^ k ≤ m.toNat := by
      rcases Nat.lt_or_ge m.toNat (10 ^ k) with hlt | hge
      · have := digits10_le (k := k) (by omega) hlt
        omega
      · exact hge
    have := digits10_ge (k := k) (n := n.toNat) (Nat.le_trans hge (by omega))
    omega
theorem num_len_le {n : Int} (h1 : 1 ≤ n) (h : n ≤ 1000100) : 1 ≤ (Str.ofString (toString n)).length ∧ (Str.ofString (toString n)).length ≤ 7 := by
  rw [num_form h1]
  exact ⟨tDigits_len_ge 10 _, digits10_le (k := 7) (by omega) (by omega)⟩
noncomputable def LabC (c : Nat) : Prop := c = 32 ∨ c = 45 ∨ (48 ≤ c ∧ c ≤ 57)
theorem label_chars (o : Option Int) : ∀ c ∈ (labelT o).cps.toList, LabC c := by
  cases o with
  | none =>
    intro c hc
    have e : (labelT none).cps.toList = [32, 32, 45, 45] := by show (Str.ofString "  --").cps.toList = _; decide +kernel
    rw [e] at hc
    simp only [List.mem_cons, List.not_mem_nil, or_false] at hc
    unfold LabC
    omega
  | some n =>
    intro c hc
    refine Classical.byContradiction fun hn => ?_
    unfold LabC at hn
    exact int_text_free' c (by omega) n hc
theorem label_len {o : Option Int} (h : ∀ n, o = some n → 1 ≤ n ∧ n ≤ 1000100) : 1 ≤ (labelT o).length ∧ (labelT o).length ≤ 7 := by
  cases o with
  | none =>
    have e : (labelT none).length = 4 := by show (Str.ofString "  --").length = _; decide +kernel
    omega
  | some n => obtain ⟨h1, h2⟩ := h n rfl; exact num_len_le h1 h2
theorem rows_pos {total : Int} {ns : List Int} {rows : List (Option Int × Str)} (hro : RowsOf total ([8, 62, 122, 4] ++ List.take 5 ns) rows) (hl : rows.length = 4 + min 5 ns.length) : ∀ r ∈ rows, ∀ n, r.1 = some n → 1 ≤ n ∧ n ≤ 1000100 := by
  intro r hr
  obtain ⟨j, hj⟩ := List.mem_iff_getElem?.mp hr
  obtain ⟨x, hx⟩ := row_of hro hl hj
  exact hx.num
theorem lab_short {total : Int} {ns : List Int} {rows : List (Option Int × Str)} {ls : List (Str × Tok)} {y : Str} (hro : RowsOf total ([8, 62, 122, 4] ++ List.take 5 ns) rows) (hl : rows.length = 4 + min 5 ns.length) (hls : ls.map (·.1) = rows.map (fun r => labelT r.1)) (hm : y ∈ ls.map (·.1)) : y.length ≤ 7 := by
  rw [hls] at hm
  obtain ⟨r, hr, rfl⟩ := List.mem_map.mp hm
  exact (label_len (rows_pos hro hl r hr)).2
theorem none_len : (labelT none).length = 4 := by show (Str.ofString "  --").length = _; decide +kernel
theorem width_eq {rows : List (Option Int × Str)} {os : List (Option Int)} {b : Option Int} {M : Int} (hos : ∀ o, o ∈ os ↔ o ∈ rows.map (·.1)) (hpos : ∀ r ∈ rows, ∀ n, r.1 = some n → 1 ≤ n ∧ n ≤ 1000100) (hb : BestOf os b) (hne : ∃ r ∈ rows, r.1 ≠ none)
    (hM : M ∈ [3] ++ (rows.map fun r => labelT r.1).map fun y => (y.length : Int)) (hmax : ∀ a, a ∈ [3] ++ ((rows.map fun r => labelT r.1).map fun y => (y.length : Int)) → a ≤ M) : widthT os b = M := by
  have hlab : ∀ r ∈ rows, ((labelT r.1).length : Int) ≤ M := fun r hr => hmax _ (List.mem_append_right _ (List.mem_map.mpr ⟨_, List.mem_map.mpr ⟨r, hr, rfl⟩, rfl⟩))
  have h3 : 3 ≤ M := hmax 3 (List.mem_append_left _ List.mem_cons_self)
  cases b with
  | none =>
    obtain ⟨r, hr, hn⟩ := hne
    exact absurd (hb _ ((hos _).mpr (List.mem_map.mpr ⟨r, hr, rfl⟩))) hn
  | some m =>
    obtain ⟨rm, hrm, erm⟩ := List.mem_map.mp ((hos _).mp hb.1)
    have hm1 := (hpos rm hrm m erm).1
    have hlm : lenN m ≤ M := by have := hlab rm hrm; rw [erm] at this; exact this
    have hle : ∀ n, some n ∈ os → lenN n ≤ lenN m := by
      intro n hn
      obtain ⟨r, hr, er⟩ := List.mem_map.mp ((hos _).mp hn)
      have h1 := (hpos r hr n er).1
      have := num_len_mono h1 (hb.2 n hn)
      unfold lenN
      omega
    have hmem : M = 3 ∨ ∃ r ∈ rows, M = ((labelT r.1).length : Int) := by
      rcases List.mem_append.mp hM with h | h
      · left; simpa using h
      · obtain ⟨y, hy, e⟩ := List.mem_map.mp h
        obtain ⟨r, hr, rfl⟩ := List.mem_map.mp hy
        exact .inr ⟨r, hr, e.symm⟩
    unfold widthT
    rw [if_neg (by show ¬ m = -1; omega)]
    show (if (if lenN m > 3 then lenN m else 3) < 4 then (if os.any Option.isNone = true then 4 else if lenN m > 3 then lenN m else 3) else if lenN m > 3 then lenN m else 3) = M
    have hX : (if lenN m > 3 then lenN m else 3) ≤ M ∧ 3 ≤ (if lenN m > 3 then lenN m else 3) ∧ lenN m ≤ (if lenN m > 3 then lenN m else 3) := by split <;> omega
    generalize (if lenN m > 3 then lenN m else 3) = X at hX
    have hany : os.any Option.isNone = true ↔ none ∈ rows.map (·.1) := by
      rw [← hos, List.any_eq_true]
      constructor
      · rintro ⟨o, ho, hn⟩; cases o with
        | none => exact ho
        | some => cases hn
      · exact fun h => ⟨none, h, rfl⟩
    by_cases ha : os.any Option.isNone = true
    · obtain ⟨r, hr, er⟩ := List.mem_map.mp (hany.mp ha)
      have h4 := hlab r hr
      rw [er, none_len] at h4
      rw [if_pos ha]
      rcases hmem with h | ⟨r', hr', h⟩
      · omega
      · cases e : r'.1 with
        | none => rw [e, none_len] at h; split <;> omega
        | some n =>
          rw [e] at h
          have := hle n ((hos _).mpr (List.mem_map.mpr ⟨r', hr', e⟩))
          have hh : M = lenN n := h
          split <;> omega
    · rw [if_neg ha]
      have e : (if X < 4 then X else X) = X := by split <;> rfl
      rw [e]
      rcases hmem with h | ⟨r', hr', h⟩
      · omega
      · cases e : r'.1 with
        | none => exact absurd (hany.mpr (List.mem_map.mpr ⟨r', hr', e⟩)) ha
        | some n =>
          rw [e] at h
          have := hle n ((hos _).mpr (List.mem_map.mpr ⟨r', hr', e⟩))
          have hh : M = lenN n := h
          omega
theorem width_none {rows : List (Option Int × Str)} {os : List (Option Int)} {b : Option Int} (hos : ∀ o, o ∈ os ↔ o ∈ rows.map (·.1)) (hb : BestOf os b) (hall : ∀ r ∈ rows, r.1 = none) : widthT os b = 0 := by
  cases b with
  | none => rfl
  | some m =>
    obtain ⟨r, hr, er⟩ := List.mem_map.mp ((hos _).mp hb.1)
    rw [hall r hr] at er
    cases er
theorem width_bound {os : List (Option Int)} {b : Option Int} (hb : BestOf os b) (hos : ∀ n, some n ∈ os → 1 ≤ n ∧ n ≤ 1000100) : 0 ≤ widthT os b ∧ widthT os b ≤ 7 := by
  cases b with
  | none => exact ⟨Int.le_refl _, by show (0 : Int) ≤ 7; omega⟩
  | some m =>
    have h1 := hos m hb.1
    have h2 := num_len_le h1.1 h1.2
    unfold widthT lenN
    show 0 ≤ (if m = -1 then _ else _) ∧ _
    have e : (some m).getD (-1) = m := rfl
    rw [e]
    rw [if_neg (by omega)]
    constructor
    · repeat' split
      all_goals omega
    · repeat' split
      all_goals omega
theorem str_at {ls : List (Str × Tok)} {i : Nat} {y : Str} (h : (ls.map (·.1))[i]? = some y) : ∃ t, (strValues ls)[i]? = some (.str y t) := by
  rw [List.getElem?_map] at h
  cases e : ls[i]? with
  | none => rw [e] at h; cases h
  | some p =>
    rw [e] at h
    cases h
    exact ⟨p.2, by unfold strValues; rw [List.getElem?_map, e]; rfl⟩
theorem lab_at {ls : List (Str × Tok)} {rows : List (Option Int × Str)} {i : Nat} {r : Option Int × Str} (h : ls.map (·.1) = rows.map (fun r => labelT r.1)) (hr : rows[i]? = some r) : ∃ t, (strValues ls)[i]? = some (.str (labelT r.1) t) :=
  str_at (by rw [h, List.getElem?_map, hr]; rfl)
noncomputable def rowT (W : Int) (r : Option Int × Str) : Str := if W = 0 then r.2 else (Txt.mul (Str.ofString " ") (W - ((labelT r.1).length : Int)) ++ labelT r.1 ++ Str.ofString " " ++ r.2)
theorem rows_snocT {rs : List (Str × Tok)} {rows : List (Option Int × Str)} {W : Int} {i : Nat} {r : Option Int × Str} {t : Tok} (h : rs.map (·.1) = (rows.take i).map (rowT W)) (hr : rows[i]? = some r) :
    (rs ++ [(rowT W r, t)]).map (·.1) = (rows.take (i + 1)).map (rowT W) := by
  rw [List.map_append, h, List.take_add_one, hr, List.map_append]; rfl
theorem first_row {total : Int} {ns : List Int} {rows : List (Option Int × Str)} (hro : RowsOf total ([8, 62, 122, 4] ++ List.take 5 ns) rows) (hl : rows.length = 4 + min 5 ns.length) (h5 : total.fmod 5 ≠ 4) : ∃ r ∈ rows, r.1 ≠ none := by
  obtain ⟨r, hr⟩ : ∃ r, rows[0]? = some r := ⟨_, List.getElem?_eq_getElem (by omega)⟩
  exact ⟨r, List.mem_of_getElem? hr, (hro 0 8 r rfl hr).first rfl h5⟩
theorem bare_rows {total : Int} {ns : List Int} {rows : List (Option Int × Str)} (hro : RowsOf total ([8, 62, 122, 4] ++ List.take 5 ns) rows) (hl : rows.length = 4 + min 5 ns.length) (h5 : total.fmod 5 = 4) : ∀ r ∈ rows, r.1 = none := by
  intro r hr
  obtain ⟨j, hj⟩ := List.mem_iff_getElem?.mp hr
  obtain ⟨x, hx⟩ := row_of hro hl hj
  exact hx.bare h5
theorem text_len {total : Int} {ns : List Int} {rows : List (Option Int × Str)} (hro : RowsOf total ([8, 62, 122, 4] ++ List.take 5 ns) rows) (hl : rows.length = 4 + min 5 ns.length) : ∀ r ∈ rows, r.2.length ≤ 5 ∧ ∀ c ∈ r.2.cps.toList, c = 97 ∨ c = 61 ∨ c = 32 ∨ c = 9 ∨ c = 233 := by
  intro r hr
  obtain ⟨j, hj⟩ := List.mem_iff_getElem?.mp hr
  obtain ⟨x, hx⟩ := row_of hro hl hj
  have h1 := hx.len
  have h2 := Int.fmod_lt_of_pos x (b := 6) (by decide)
  exact ⟨by omega, hx.sign⟩
theorem row_len {W : Int} {r : Option Int × Str} (h7 : W ≤ 7) (h1 : (labelT r.1).length ≤ 7) (h2 : r.2.length ≤ 5) : (rowT W r).length ≤ 20 := by
  unfold rowT
  split
  · omega
  · rw [Str.length_append, Str.length_append, Str.length_append]
    have h4 : (Str.ofString " ").length = 1 := by decide +kernel
    have h3 := len_mul_leN (x := Str.ofString " ") (n := W - ((labelT r.1).length : Int)) (L := 1) (N := 7) (by omega) (by omega)
    omega
theorem rows_short {total : Int} {ns : List Int} {rows : List (Option Int × Str)} {rs : List (Str × Tok)} {y : Str} {W : Int} (h7 : W ≤ 7) (hro : RowsOf total ([8, 62, 122, 4] ++ List.take 5 ns) rows) (hl : rows.length = 4 + min 5 ns.length) (hrs : rs.map (·.1) = rows.map (rowT W)) (hm : y ∈ rs.map (·.1)) : y.length ≤ 20 := by
  rw [hrs] at hm
  obtain ⟨r, hr, rfl⟩ := List.mem_map.mp hm
  exact row_len h7 (label_len (rows_pos hro hl r hr)).2 (text_len hro hl r hr).1
theorem take_whole {rs : List (Str × Tok)} {rows : List (Option Int × Str)} {f : Option Int × Str → Str} {n : Nat} (h : rs.map (·.1) = (rows.take n).map f) (hn : n = rows.length) : rs.map (·.1) = rows.map f ∧ rs.length = rows.length := by
  have e : rs.map (·.1) = rows.map f := by rw [h, hn, List.take_length]
  exact ⟨e, by have := congrArg List.length e; simpa using this⟩
theorem strs_size {rs : List (Str × Tok)} {n : Nat} (h : rs.length = n) (hn : n ≤ 100) : (strValues rs).toArray.size ≤ sizeLine ∧ (strValues rs).length ≤ 100 := by
  rw [List.size_toArray, PySem.sizeLine_eq]; unfold strValues; rw [List.length_map]; omega
end TextPLN
end Mine
namespace Mine
section TextPLL0
set_option maxRecDepth 100000
set_option maxHeartbeats 1000000
noncomputable def needT (y : Str) : Int := (List.map sgn y.cps.toList).sum + (if ([Str.ofString " ", Str.ofString "\t"].any fun x => x == Txt.slice y (some (-1)) none) = true then 2 else 0)
noncomputable def lastT (total : Int) : List Int := if total.fmod 2 = 1 then [0] else []
/-- a letter's line taken apart: its signs, each with its being quoted, and whether a soft end stands behind -/
noncomputable def toksL : List Nat → List (Nat × Bool) × Bool
  | [] => ([], false)
  | [61] => ([], true)
  | 61 :: 51 :: 68 :: r => ((61, true) :: (toksL r).1, (toksL r).2)
  | 61 :: 69 :: 57 :: r => ((233, true) :: (toksL r).1, (toksL r).2)
  | 61 :: 50 :: 48 :: r => ((32, true) :: (toksL r).1, (toksL r).2)
  | 61 :: 48 :: 57 :: r => ((9, true) :: (toksL r).1, (toksL r).2)
  | c :: r => ((c, false) :: (toksL r).1, (toksL r).2)
noncomputable def toksOf (y : Str) : List (Nat × Bool) × Bool := toksL y.cps.toList
structure LetterOk (x y : Str) (k : Int) (lens : List Int) : Prop where
  hx : x.length ≤ 150
  hok : ∀ c ∈ x.cps.toList, okc c = true
  hy : y.length ≤ 2
  hye : (y.length == 0) = false
  hkl : 4 ≤ k ∧ k ≤ 1000
  hlines : ∀ z ∈ Txt.lines ⟨(x.cps.toList.flatMap tr).toArray⟩, LineOk k z
  hz : (encT k y x).length ≤ 600
  hL : ∀ z ∈ Txt.lines (encT k y x), LineTk z (toksOf z).1 (toksOf z).2 ∧ Txt.rstrip z = z
  hdec : (decT (encT k y x) ((Txt.lines (encT k y x)).flatMap fun y => decOf (toksOf y).1 (toksOf y).2) != x) = false
  hlen : (Txt.split (encT k y x) y).map (fun z => (z.length : Int)) = lens
section
variable {M : Model} {A : Around} {E : Value → Shared → Prop} {s : Shared} {h₀ : Heap} {L : Addr} {m : Str → Option Value} {news : List (Addr × Obj)}
noncomputable def LastEnd (h₀ : Heap) (L : Addr) (m : Str → Option Value) (s : Shared) (news : List (Addr × Obj)) (ns : List Int) (v : Value) (s' : Shared) : Prop :=
  ∃ D vs n h' tk, v = .ref D ∧ s' = { s with heap := h', toks := tk } ∧ Fr h₀ L h' m ∧ News h₀ L h' ((D, listOf vs.toArray n) :: news) ∧ (∀ p ∈ news, p.1 < D) ∧ IntsAre vs ns
theorem last_end {ns : List Int} {D : Addr} {vs : List Value} {n : Nat} {h' : Heap} {tk : Nat} (F : Fr h₀ L h' m) (N : News h₀ L h' ((D, listOf vs.toArray n) :: news)) (lt : ∀ p ∈ news, p.1 < D) (hi : IntsAre vs ns) : LastEnd h₀ L m s news ns (.ref D) { s with heap := h', toks := tk } :=
  ⟨D, vs, n, h', tk, rfl, rfl, F, N, lt, hi⟩
theorem last_join {tree : Sem Value} {Q : Value → Shared → Prop} (ns : List Int) (_F : Fr h₀ L s.heap m) (_N : News h₀ L s.heap news) (test : wpAny M A tree (LastEnd h₀ L m s news ns) E s)
    (rest : ∀ D vs n h' tk', Fr h₀ L h' m → News h₀ L h' ((D, listOf vs.toArray n) :: news) → (∀ p ∈ news, p.1 < D) → IntsAre vs ns → Q (.ref D) { s with heap := h', toks := tk' }) : wpAny M A tree Q E s :=
  wpAny_mono test (fun v s' hb => by obtain ⟨D, vs, n, h', tk', rfl, rfl, F', N', l, hi⟩ := hb; exact rest D vs n h' tk' F' N' l hi) fun _ _ e => e
noncomputable def EolOk (y : Str) : Prop := y = Str.ofString "\n" ∨ y = Str.ofString "\x0d\n" ∨ y = Str.ofString "\x0d"
noncomputable def EndsEnd (h₀ : Heap) (L : Addr) (m : Str → Option Value) (s : Shared) (news : List (Addr × Obj)) (v : Value) (s' : Shared) : Prop :=
  ∃ y t h' tk, v = .str y t ∧ s' = { s with heap := h', toks := tk } ∧ Fr h₀ L h' m ∧ News h₀ L h' news ∧ EolOk y
theorem ends_end {y : Str} {t : Tok} {all : List (Addr × Obj)} {h' : Heap} {tk : Nat} (F : Fr h₀ L h' m) (N : News h₀ L h' all) (sub : ∀ p ∈ news, p ∈ all) (hy : EolOk y) : EndsEnd h₀ L m s news (.str y t) { s with heap := h', toks := tk } :=
  ⟨y, t, h', tk, rfl, rfl, F, fun p hp => N p (sub p hp), hy⟩
theorem ends_join {tree : Sem Value} {Q : Value → Shared → Prop} (_F : Fr h₀ L s.heap m) (_N : News h₀ L s.heap news) (test : wpAny M A tree (EndsEnd h₀ L m s news) E s)
    (rest : ∀ y t h' tk', Fr h₀ L h' m → News h₀ L h' news → EolOk y → Q (.str y t) { s with heap := h', toks := tk' }) : wpAny M A tree Q E s :=
  wpAny_mono test (fun v s' hb => by obtain ⟨y, t, h', tk', rfl, rfl, F', N', hy⟩ := hb; exact rest y t h' tk' F' N' hy) fun _ _ e => e
end
theorem ints_len {vs : List Value} {ns : List Int} (h : IntsAre vs ns) : vs.length = ns.length := h.length
theorem last_len (total : Int) : (lastT total).length ≤ 1 := by unfold lastT; split <;> decide
end TextPLL0
end Mine
namespace Mine
section TextNC
set_option maxRecDepth 100000
set_option maxHeartbeats 2000000
open PyProof.Rows.LCg
theorem turn_0 (elt t0 i0 t1 i1 : Expr) (scope : Scope) (pos : Pos) (it acc : Value) (env : Env) :
    compTurn (.ListComp elt [⟨t0, i0, [], 0⟩, ⟨t1, i1, [], 0⟩] scope pos) 0 it acc env = (do
      standAt i0.pos
      match ← pyNext it with
      | none => pure (.done .next)
      | some v =>
        letOwnedTupleGo t0 it v
        assign t0 env v
        let x ← eval i1 env
        standAt i1.pos
        let x ← foldedSetIterable i1 env x
        let it' ← holding [x] (pyIter x)
        let _ ← runOwn (.compStart (.ListComp elt [⟨t0, i0, [], 0⟩, ⟨t1, i1, [], 0⟩] scope pos) 1 it' acc env) env
        again (.compLoop (.ListComp elt [⟨t0, i0, [], 0⟩, ⟨t1, i1, [], 0⟩] scope pos) 0 it acc env)) := by rfl
theorem turn_1 (elt t0 i0 t1 i1 : Expr) (scope : Scope) (pos : Pos) (it acc : Value) (env : Env) :
    compTurn (.ListComp elt [⟨t0, i0, [], 0⟩, ⟨t1, i1, [], 0⟩] scope pos) 1 it acc env = (standAt i1.pos >>= fun _ => pyNext it >>= fun r => match r with
      | none => pure (.done .next)
      | some v => letOwnedTupleGo t1 it v >>= fun _ => assign t1 env v >>= fun _ =>
        (eval elt env >>= fun x => call (.builtin "list.append") [acc, x] >>= fun _ => pure ()) >>= fun _ =>
          again (.compLoop (.ListComp elt [⟨t0, i0, [], 0⟩, ⟨t1, i1, [], 0⟩] scope pos) 1 it acc env)) := by rfl
section
variable {prog : Program} {w : World} {A : Around} {E : Value → Shared → Prop} {R : Result → Shared → Prop} {s : Shared}
theorem start_1 {elt t0 i0 t1 i1 : Expr} {scope : Scope} {pos : Pos} {it acc : Value} {env : Env}
    (h0 : codeAny (model prog w) A (.compLoop (.ListComp elt [⟨t0, i0, [], 0⟩, ⟨t1, i1, [], 0⟩] scope pos) 1 it acc env) R s)
    (h : wpAny (model prog w) A (pyIter it) (fun it' s' => codeAny (model prog w) A (.compLoop (.ListComp elt [⟨t0, i0, [], 0⟩, ⟨t1, i1, [], 0⟩] scope pos) 1 it' acc env) R s')
      (notedBy (model prog w) A env fun x s' => R (.error x) s') s) :
    codeAny (model prog w) A (.compStart (.ListComp elt [⟨t0, i0, [], 0⟩, ⟨t1, i1, [], 0⟩] scope pos) 1 it acc env) R s := by
  refine codeAny_of_tree ?_
  show wpAny _ _ ((compStart (.ListComp elt [⟨t0, i0, [], 0⟩, ⟨t1, i1, [], 0⟩] scope pos) 1 it acc env).onRaise (fun x => do noteFrame x env; standAt theWindowsPlace)) _ _ s
  refine wpAny_notedAt ?_
  unfold compStart
  show wpAny _ _ (ask >>= _) _ _ s
  refine wpAny_bind (wpAny_askSetting (wpAny_ite ?_))
  split
  · first
      | exact wpAny_bind (wpAny_pure (wpAny_pure (And.intro rfl h0)))
      | exact wpAny_pure (And.intro rfl h0)
  · first
      | exact wpAny_bind (wpAny_rule (wpAny_bind (wpAny_standAt (wpAny_bind (wpAny_mono h (fun it' s' h' => wpAny_pure (And.intro rfl h')) fun _ _ x => x)))))
      | (refine wpAny_bind (wpAny_rule ?_); show wpAny _ _ (standAt i1.pos >>= _) _ _ s; exact wpAny_bind (wpAny_standAt (wpAny_bind (wpAny_mono h (fun it' s' h' => wpAny_pure (And.intro rfl h')) fun _ _ x => x))))
/-- the inner loop: every int of the list goes behind the list that is built -/
theorem inner_run {h₀ : Heap} {L : Addr} {m : Str → Option Value} {cenv : Env} {t0 i0 i1 : Expr} {y : Str} {py py' : Pos} {scope : Scope} {pos : Pos} {J D D2 C : Addr} {vs ys : List Value} {news : List (Addr × Obj)}
    (hh : A.handled = none) (hC : cenv.locals = C) (hy : cenv.kindOf y = some .local) (hk : cenv.scope.kind = .function) (hyd : (y == ("__debug__" : Str)) = false)
    (hDJ : D2 ≠ J) (hD2D : D2 ≠ D) (hD2C : D2 ≠ C) (hJC : J ≠ C) (hJD : J ≠ D) (hDC : D ≠ C) (hDL : D ≠ L) (hCL : C ≠ L) (hJL : J ≠ L) (hD₀ : h₀.get? D = none) (hC₀ : h₀.get? C = none) (hJ₀ : h₀.get? J = none)
    (offJ : ∀ p ∈ news, p.1 ≠ J) (offC : ∀ p ∈ news, p.1 ≠ C) (offD : ∀ p ∈ news, p.1 ≠ D) (hlen : ys.length + vs.length ≤ sizeLine)
    (hR : ∀ h' tk m', Fr h₀ L h' m → h'.Ns C m' → News h₀ L h' ((D, lst (ys ++ vs)) :: news) → R (.ok .next) { s with heap := h', toks := tk })
    (F : Fr h₀ L s.heap m) {mC : Str → Option Value} (hn : s.heap.Ns C mC) (N : News h₀ L s.heap ((D, lst ys) :: news)) (hJ : s.heap.IsListIter J D2 0) (hL2 : s.heap.IsList D2 vs.toArray) :
    codeAny (model prog w) A (.compLoop (.ListComp (.Name y py') [⟨t0, i0, [], 0⟩, ⟨.Name y py, i1, [], 0⟩] scope pos) 1 (.ref J) (.ref D) cenv) R s := by
  subst hC
  have W := Walks.list (prog := prog) (w := w) (A := A) hh J D2 hDJ vs.toArray
  refine codeAny_loop rfl (fun k s' => ∃ h' tk j m', s' = { s with heap := h', toks := tk } ∧ j ≤ vs.length ∧ k = vs.length + 1 - j ∧ (h'.IsListIter J D2 j ∧ h'.IsList D2 vs.toArray) ∧ Fr h₀ L h' m ∧ h'.Ns cenv.locals m' ∧ News h₀ L h' ((D, lst (ys ++ vs.take j)) :: news))
    ?_ (vs.length + 1) ⟨s.heap, s.toks, 0, mC, rfl, Nat.zero_le _, rfl, ⟨hJ, hL2⟩, F, hn, by simpa using N⟩
  rintro k s' ⟨h', tk, j, m', rfl, hj, rfl, hst, F', hn', N'⟩
  show wpAny _ A ((compTurn (.ListComp (.Name y py') [⟨t0, i0, [], 0⟩, ⟨.Name y py, i1, [], 0⟩] scope pos) 1 (.ref J) (.ref D) cenv).onRaise (fun x => do noteFrame x cenv; theTreesLotGoes x)) _ _ _
  refine wpAny_noted ?_
  rw [turn_1]
  refine wpAny_bind (wpAny_standAt (wpAny_bind ?_))
  by_cases hlt : j < vs.length
  · refine W.item j _ _ _ (by simpa using hlt) hst fun v h₂ tk₂ hPv hst₂ hk₂ => ?_
    have hv : vs[j]? = some v := by simpa using hPv
    refine wpAny_bind (wpAny_of_eq (show letOwnedTupleGo (.Name y py) (.ref J) v = pure () from rfl) ?_)
    refine wpAny_bind (wpAny_assign_Name (wpAny_storeName_local hy (hn'.at' fun o e => hk₂ _ o (by simpa using Ne.symm hJC) e) (fun h₃ hn₃ hs₃ => ?_) (by rw [hk]; rfl)))
    refine wpAny_bind (wpAny_bind (wpAny_Name (wpAny_loadName_local hk hy hn₃ (if_pos rfl) ?_) hyd))
    have F₃ : Fr h₀ L h₃ m := (fr_but F' hk₂ (Ne.symm hJL) hJ₀).change hs₃ hCL hC₀
    have N₂ : News h₀ L h₂ ((D, lst (ys ++ vs.take j)) :: news) := news_but N' hk₂ fun p hp => by
      rcases List.mem_cons.mp hp with rfl | hp
      · exact Ne.symm hJD
      · exact offJ p hp
    have zD : h₃.get? D = some (lst (ys ++ vs.take j)) := hs₃.extBut _ _ hDC (N₂ _ List.mem_cons_self).1
    refine wpAny_bind (append_at (hsz := by show (ys ++ vs.take j).toArray.size ≤ sizeLine; rw [List.size_toArray, List.length_append, List.length_take]; omega) zD fun h₅ hs₅ hD₅ => ?_)
    refine wpAny_pure (wpAny_pure ⟨rfl, vs.length + 1 - (j + 1), by omega, h₅, _, j + 1, _, rfl, hlt, rfl, ?_, F₃.change hs₅ hDL hD₀, hn₃.sameBut hs₅ (Ne.symm hDC), fun p hp => ?_⟩)
    · exact W.frame _ _ _ hst₂ fun b hb o e => by
        have hb' : b = J ∨ b = D2 := by simpa using hb
        rcases hb' with rfl | rfl
        · exact hs₅.extBut _ _ hJD (hs₃.extBut _ _ hJC e)
        · exact hs₅.extBut _ _ hD2D (hs₃.extBut _ _ hD2C e)
    · rcases List.mem_cons.mp hp with rfl | hp
      · refine ⟨hD₅.trans (congrArg some ?_), hDL, hD₀⟩
        rw [lst_snoc, List.append_assoc, List.take_add_one, hv]
        rfl
      · have z := N₂ p (List.mem_cons_of_mem _ hp)
        exact ⟨hs₅.extBut _ _ (offD p hp) (hs₃.extBut _ _ (offC p hp) z.1), z.2⟩
  · obtain rfl : j = vs.length := Nat.le_antisymm hj (Nat.not_lt.mp hlt)
    refine W.done _ _ _ (by simpa using hst) fun h₂ tk₂ hk₂ => ?_
    refine wpAny_pure (hR h₂ tk₂ m' (fr_but F' hk₂ (Ne.symm hJL) hJ₀) (hn'.at' fun o e => hk₂ _ o (by simpa using Ne.symm hJC) e) ?_)
    rw [List.take_length] at N'
    exact news_but N' hk₂ fun p hp => by
      rcases List.mem_cons.mp hp with rfl | hp
      · exact Ne.symm hJD
      · exact offJ p hp
noncomputable def NTurn (h₀ : Heap) (L : Addr) (m : Str → Option Value) (s₁ : Shared) (I : Addr) (oI : Obj) (C : Addr) (oC : Obj) (D : Addr) (oD : Obj) (news : List (Addr × Obj)) (ns : List Int) (xv : Value) (s₂ : Shared) : Prop :=
  ∃ D2 vs nn h' tk, xv = .ref D2 ∧ s₂ = { s₁ with heap := h', toks := tk } ∧ Fr h₀ L h' m ∧ News h₀ L h' ((D2, listOf vs.toArray nn) :: (I, oI) :: (C, oC) :: (D, oD) :: news) ∧ (∀ p ∈ (I, oI) :: (C, oC) :: (D, oD) :: news, p.1 < D2) ∧ IntsAre vs ns
theorem nturn_end {h₀ : Heap} {L : Addr} {m : Str → Option Value} {s₁ : Shared} {I : Addr} {oI : Obj} {C : Addr} {oC : Obj} {D : Addr} {oD : Obj} {news : List (Addr × Obj)} {ns : List Int} {D2 : Addr} {vs : List Value} {nn : Nat} {h' : Heap} {tk : Nat}
    (F : Fr h₀ L h' m) (N : News h₀ L h' ((D2, listOf vs.toArray nn) :: (I, oI) :: (C, oC) :: (D, oD) :: news)) (lt : ∀ p ∈ (I, oI) :: (C, oC) :: (D, oD) :: news, p.1 < D2) (hi : IntsAre vs ns) : NTurn h₀ L m s₁ I oI C oC D oD news ns (.ref D2) { s₁ with heap := h', toks := tk } :=
  ⟨D2, vs, nn, h', tk, rfl, rfl, F, N, lt, hi⟩
theorem flat_snoc {f : Nat → List Int} {i : Nat} : (List.range (i + 1)).flatMap f = (List.range i).flatMap f ++ f i := by
  rw [List.range_succ, List.flatMap_append]; simp
theorem flat_two {f : Nat → List Int} {n : Nat} (h : ∀ i, i < n → (f i).length ≤ 2) : ∀ i, i ≤ n → ((List.range i).flatMap f).length ≤ 2 * i
  | 0, _ => by simp
  | i + 1, hi => by
    rw [flat_snoc, List.length_append]
    have := flat_two h i (by omega)
    have := h i (by omega)
    omega
section
variable {h₀ : Heap} {L : Addr} {m : Str → Option Value} {env : Env}
theorem block_N {x y : Str} {px py py' : Pos} {i0 i1 : Expr} {scope : Scope} {cl : List (Str × Addr)} {pos : Pos} {s₂ : Shared} {I : Addr} {n : Nat} {news : List (Addr × Obj)} (f : Nat → List Int) {RR : Value → Addr → Result → Shared → Prop}
    (hh : A.handled = none) (hsz : n ≤ 1000) (hf : ∀ i, i < n → (f i).length ≤ 2) (hcell : ∀ z ∈ scope.names, z.2 ≠ .cell) (hkind : scope.kind = .function) (hx : scope.names.lookup x = some .local) (hy : scope.names.lookup y = some .local) (hyd : (y == ("__debug__" : Str)) = false)
    (hst : IsRangeIter s₂.heap I (0 + ((0 : Nat) : Int) * 1) ((n : Int) - ((0 : Nat) : Int)) 1)
    (F : Fr h₀ L s₂.heap m) (N : News h₀ L s₂.heap news) (hIL : L ≠ I) (hI₀ : h₀.get? I = none) (off : ∀ p ∈ news, p.1 ≠ I)
    (hfold1 : ∀ C v, foldedSetIterable i1 (compEnvC scope cl C env) v = pure v)
    (turn : ∀ (i : Nat) ys I oI C oC D m₂ h tk t (E' : Value → Shared → Prop), i < n → NsObj oC m₂ → m₂ x = some (.int (0 + (i : Int)) t) → Fr h₀ L h m → News h₀ L h ((I, oI) :: (C, oC) :: (D, lst ys) :: news) → Off3 I C D news → ((@Ne Nat I C) ∧ (@Ne Nat I D) ∧ (@Ne Nat C D)) →
      wpAny (model prog w) A (eval i1 (compEnvC scope cl C env)) (NTurn h₀ L m { s₂ with heap := h, toks := tk } I oI C oC D (lst ys) news (f i)) E' { s₂ with heap := h, toks := tk })
    (hRR : ∀ D C h tk m' ys, Fr h₀ L h m → News h₀ L h ((D, lst ys) :: news) → h.Ns C m' → h₀.get? C = none → h₀.get? D = none → C ≠ L → D ≠ L → C ≠ D → (∀ p ∈ news, p.1 < D) → (∀ p ∈ news, p.1 ≠ C) → IntsAre ys ((List.range n).flatMap f) → RR (.ref D) C (.ok .next) { s₂ with heap := h, toks := tk }) :
    wpAny (model prog w) A (newList []) (fun acc s₃ => wpAny (model prog w) A (newFunctionEnv scope env.globals cl [] env.qual none .none (some env)) (fun cenv s₄ =>
      codeAny (model prog w) A (.compStart (.ListComp (.Name y py') [⟨.Name x px, i0, [], 0⟩, ⟨.Name y py, i1, [], 0⟩] scope pos) 0 (.ref I) acc { cenv with scope := relabel scope env }) (RR acc cenv.locals) s₄) E s₃) E s₂ := by
  have W := range_walks (prog := prog) (w := w) (A := A) (I := I) hh 0 n
  refine wpAny_newObj_type (wpAny_newFunctionEnv hcell (by intro y hy; simp at hy) (fun h₁ hns₁ hsb₁ => ?_) hkind)
  dsimp only at hns₁ hsb₁ ⊢
  generalize hH2 : s₂.heap.push { cls := .type "list", dict := none, data := .seq ([] : List Value).toArray } = H2 at hns₁ hsb₁ ⊢
  have hC : H2.objs.size = s₂.heap.objs.size + 1 := by rw [← hH2, Heap.size_push]
  have hDC : s₂.heap.objs.size ≠ H2.objs.size := by rw [hC]; exact Nat.ne_of_lt (Nat.lt_succ_self _)
  have below : ∀ b, b < s₂.heap.objs.size → b ≠ H2.objs.size ∧ b ≠ s₂.heap.objs.size := fun b hb => ⟨by rw [hC]; exact Nat.ne_of_lt (Nat.lt_succ_of_lt hb), Nat.ne_of_lt hb⟩
  have hIlt : I < s₂.heap.objs.size := Heap.lt_size hst
  have old : ∀ b o, s₂.heap.get? b = some o → h₁.get? b = some o := fun b o e => hsb₁.extBut b o (below b (Heap.lt_size e)).1 (Heap.get?_push_of_some _ (hH2 ▸ Heap.get?_push_of_some _ e))
  have hacc : h₁.get? s₂.heap.objs.size = some (lst []) := hsb₁.extBut _ _ hDC (Heap.get?_push_of_some _ (hH2 ▸ Heap.get?_push_size _ rfl))
  have fresh₀ : ∀ a, s₂.heap.objs.size ≤ a → h₀.get? a = none := fun a ha => by
    cases e : h₀.get? a with
    | none => rfl
    | some o' => exact absurd (Heap.lt_size (F.keep a o' e)) (Nat.not_lt.mpr ha)
  have hD₀ : h₀.get? s₂.heap.objs.size = none := fresh₀ _ (Nat.le_refl _)
  have hC₀ : h₀.get? H2.objs.size = none := fresh₀ _ (by rw [hC]; exact Nat.le_succ _)
  have hLlt : L < s₂.heap.objs.size := F.ns.lt
  have hDL : s₂.heap.objs.size ≠ L := Ne.symm (below L hLlt).2
  have hCL : H2.objs.size ≠ L := Ne.symm (below L hLlt).1
  have hCI : I ≠ H2.objs.size := (below I hIlt).1
  have hDI : I ≠ s₂.heap.objs.size := (below I hIlt).2
  have ltD : ∀ p ∈ news, p.1 < s₂.heap.objs.size := fun p hp => Heap.lt_size (N p hp).1
  have off₀ : Off3 I H2.objs.size s₂.heap.objs.size news := Off3.of fun p hp => ⟨off p hp, (below _ (ltD p hp)).1, (below _ (ltD p hp)).2⟩
  have off3 := off₀.mem
  have loop : ∀ s₃ : Shared, s₃ = { s₂ with heap := h₁, toks := s₂.toks + ([] : List (Str × Value)).length } →
      codeAny (model prog w) A (.compLoop (.ListComp (.Name y py') [⟨.Name x px, i0, [], 0⟩, ⟨.Name y py, i1, [], 0⟩] scope pos) 0 (.ref I) (.ref s₂.heap.objs.size) (compEnvC scope cl H2.objs.size env))
        (RR (.ref s₂.heap.objs.size) H2.objs.size) s₃ := by
    rintro s₃ rfl
    refine codeAny_loop rfl
      (fun k s' => ∃ h' tk i ys m', s' = { s₂ with heap := h', toks := tk } ∧ i ≤ n ∧ k = n + 1 - i ∧ IntsAre ys ((List.range i).flatMap f) ∧ IsRangeIter h' I (0 + (i : Nat) * 1) ((n : Int) - (i : Nat)) 1 ∧ Fr h₀ L h' m ∧ h'.Ns H2.objs.size m' ∧ News h₀ L h' ((s₂.heap.objs.size, lst ys) :: news))
      ?_ (n + 1) ⟨h₁, _, 0, [], _, rfl, Nat.zero_le _, rfl, .nil, old _ _ hst, F.keeps old, hns₁, fun p hp => ?_⟩
    · rintro k s' ⟨h', tk, i, ys, m', rfl, hi, rfl, hys, hst', F', hn', N'⟩
      show wpAny _ A ((compTurn (.ListComp (.Name y py') [⟨.Name x px, i0, [], 0⟩, ⟨.Name y py, i1, [], 0⟩] scope pos) 0 (.ref I) (.ref s₂.heap.objs.size) (compEnvC scope cl H2.objs.size env)).onRaise (fun z => do noteFrame z (compEnvC scope cl H2.objs.size env); theTreesLotGoes z)) _ _ _
      refine wpAny_noted ?_
      rw [turn_0]
      refine wpAny_bind (wpAny_standAt (wpAny_bind ?_))
      by_cases hlt : i < n
      · refine W.item i _ _ _ hlt hst' fun v h₂ tk₂ hPv hst₂ hk₂ => ?_
        obtain ⟨t, rfl⟩ := hPv
        refine wpAny_bind (wpAny_of_eq (show letOwnedTupleGo (.Name x px) (.ref I) (.int (0 + (i : Int)) t) = pure () from rfl) ?_)
        refine wpAny_bind (wpAny_assign_Name (wpAny_storeName_local (lookup_relabel_local hx) (hn'.at' fun o e => hk₂ _ o (by simpa using Ne.symm hCI) e) (fun h₃ hn₃ hs₃ => ?_) (by simp [compEnvC, relabel, hkind])))
        obtain ⟨oI, heI, hoI⟩ : ∃ oI, h₃.get? I = some oI ∧ ∀ h : Heap, h.get? I = some oI → IsRangeIter h I (0 + ((i + 1 : Nat) : Int) * 1) ((n : Int) - ((i + 1 : Nat) : Int)) 1 := ⟨_, hs₃.extBut I _ hCI hst₂, fun h e => e⟩
        obtain ⟨oC, heC, hoC⟩ := ns_obj hn₃
        have F₃ : Fr h₀ L h₃ m := (fr_but F' hk₂ hIL hI₀).change hs₃ hCL hC₀
        have N₂ : News h₀ L h₂ ((s₂.heap.objs.size, lst ys) :: news) := news_but N' hk₂ fun p hp => by
          rcases List.mem_cons.mp hp with rfl | hp
          · exact Ne.symm hDI
          · exact (off3 p hp).1
        have N₃ : News h₀ L h₃ ((I, oI) :: (H2.objs.size, oC) :: (s₂.heap.objs.size, lst ys) :: news) := fun p hp => by
          rcases List.mem_cons.mp hp with rfl | hp
          · exact ⟨heI, Ne.symm hIL, hI₀⟩
          · rcases List.mem_cons.mp hp with rfl | hp
            · exact ⟨heC, hCL, hC₀⟩
            · have z := N₂ p hp
              refine ⟨hs₃.extBut _ _ ?_ z.1, z.2⟩
              rcases List.mem_cons.mp hp with rfl | hp
              · exact hDC
              · exact (off3 p hp).2.1
        refine wpAny_bind (wpAny_mono (turn i ys I oI H2.objs.size oC s₂.heap.objs.size _ h₃ _ t _ hlt hoC (by simp) F₃ N₃ off₀ ⟨hCI, hDI, Ne.symm hDC⟩) (fun xv s₄ h₄ => ?_) fun _ _ e => e)
        obtain ⟨D2, vs, nn, h₄, tk₄, rfl, rfl, F₄, N₄, lt₄, hvs⟩ := h₄
        refine wpAny_bind (wpAny_standAt (wpAny_bind (wpAny_of_eq (hfold1 _ _) ?_)))
        have z2 := N₄ _ List.mem_cons_self
        have zI := N₄ _ (List.mem_cons_of_mem _ List.mem_cons_self)
        have zC := N₄ _ (List.mem_cons_of_mem _ (List.mem_cons_of_mem _ List.mem_cons_self))
        have zD := N₄ _ (List.mem_cons_of_mem _ (List.mem_cons_of_mem _ (List.mem_cons_of_mem _ List.mem_cons_self)))
        have hl2 : h₄.IsList D2 vs.toArray := ⟨_, z2.1, rfl, _, rfl⟩
        have nI : I < D2 := lt₄ _ List.mem_cons_self
        have nC : H2.objs.size < D2 := lt₄ _ (List.mem_cons_of_mem _ List.mem_cons_self)
        have nD : s₂.heap.objs.size < D2 := lt₄ _ (List.mem_cons_of_mem _ (List.mem_cons_of_mem _ List.mem_cons_self))
        refine wpAny_bind (wpAny_holding (wpAny_pyIter_list hl2 ?_))
        have up : ∀ b o, h₄.get? b = some o → (h₄.push { cls := .type "list_iterator", data := .fields #[.ref D2, .int 0 0] }).get? b = some o := fun b o e => Heap.get?_push_of_some _ e
        have ltJ : ∀ b o, h₄.get? b = some o → b ≠ h₄.objs.size := fun b o e => Nat.ne_of_lt (Heap.lt_size e)
        refine wpAny_bind (wpAny_runOwn ?_)
        have hJ₀ : h₀.get? h₄.objs.size = none := by
          cases e : h₀.get? h₄.objs.size with
          | none => rfl
          | some o => exact absurd (Heap.lt_size (F₄.keep _ _ e)) (Nat.lt_irrefl _)
        have hyl : ys.length ≤ 2 * i := by rw [hys.length]; exact flat_two hf i hi
        have hvl : vs.length ≤ 2 := by rw [hvs.length]; exact hf i hlt
        refine start_1 ?key (wpAny_pyIter_listiter ⟨_, Heap.get?_push_size _ rfl, rfl, rfl⟩ ?key)
        case key =>
          refine inner_run (h₀ := h₀) (L := L) (m := m) (C := H2.objs.size) (D2 := D2) (vs := vs) (ys := ys) (news := (I, oI) :: news) hh rfl (lookup_relabel_local hy) hkind hyd (ltJ _ _ z2.1) (Nat.ne_of_gt nD) (Nat.ne_of_gt nC) (Ne.symm (ltJ _ _ zC.1)) (Ne.symm (ltJ _ _ zD.1)) hDC hDL hCL (Nat.ne_of_gt F₄.ns.lt) hD₀ hC₀ hJ₀ ?_ ?_ ?_ (by rw [PySem.sizeLine_eq]; omega) ?_ (F₄.keeps up) ((hoC.ns zC.1).keeps up) ?_ ⟨_, Heap.get?_push_size _ rfl, rfl, rfl⟩ (hl2.push _)
          · intro p hp
            rcases List.mem_cons.mp hp with rfl | hp
            · exact ltJ _ _ zI.1
            · exact ltJ _ _ (N₄ p (List.mem_cons_of_mem _ (List.mem_cons_of_mem _ (List.mem_cons_of_mem _ (List.mem_cons_of_mem _ hp))))).1
          · intro p hp
            rcases List.mem_cons.mp hp with rfl | hp
            · exact hCI
            · exact (off3 p hp).2.1
          · intro p hp
            rcases List.mem_cons.mp hp with rfl | hp
            · exact hDI
            · exact (off3 p hp).2.2
          · intro h₆ tk₆ m₆ F₆ hn₆ N₆
            refine wpAny_pure ⟨rfl, n + 1 - (i + 1), by omega, h₆, tk₆, i + 1, ys ++ vs, m₆, rfl, hlt, rfl, ?_, hoI _ (N₆ _ (List.mem_cons_of_mem _ List.mem_cons_self)).1, F₆, hn₆, fun p hp => ?_⟩
            · rw [flat_snoc]; exact IntsAre.append hys hvs
            · rcases List.mem_cons.mp hp with rfl | hp
              · exact N₆ _ List.mem_cons_self
              · exact N₆ p (List.mem_cons_of_mem _ (List.mem_cons_of_mem _ hp))
          · intro p hp
            rcases List.mem_cons.mp hp with rfl | hp
            · exact ⟨up _ _ zD.1, zD.2⟩
            · rcases List.mem_cons.mp hp with rfl | hp
              · exact ⟨up _ _ zI.1, zI.2⟩
              · have z := N₄ p (List.mem_cons_of_mem _ (List.mem_cons_of_mem _ (List.mem_cons_of_mem _ (List.mem_cons_of_mem _ hp))))
                exact ⟨up _ _ z.1, z.2⟩
      · obtain rfl : i = n := Nat.le_antisymm hi (Nat.not_lt.mp hlt)
        refine W.done _ _ _ hst' fun h₂ tk₂ hk₂ => ?_
        refine wpAny_pure (hRR _ _ h₂ tk₂ _ ys (fr_but F' hk₂ hIL hI₀) (news_but N' hk₂ fun p hp => by
          rcases List.mem_cons.mp hp with rfl | hp
          · exact Ne.symm hDI
          · exact (off3 p hp).1) (hn'.at' fun o e => hk₂ _ o (by simpa using Ne.symm hCI) e) hC₀ hD₀ hCL hDL (Ne.symm hDC) ltD (fun p hp => (off3 p hp).2.1) hys)
    · rcases List.mem_cons.mp hp with rfl | hp
      · exact ⟨hacc, hDL, hD₀⟩
      · exact ⟨old _ _ (N p hp).1, (N p hp).2⟩
  exact codeAny_compStart_list (loop _ rfl) (W.self 0 _ _ _ (old _ _ hst) (loop _ rfl))
/-- where the outer source of the comprehension has been reckoned -/
noncomputable def NSrc (prog : Program) (w : World) (A : Around) (h₀ : Heap) (L : Addr) (m : Str → Option Value) (env : Env) (i1 : Expr) (x z : Str) (scope : Scope) (cl : List (Str × Addr)) (Q : Flow → Shared → Prop) (xv : Value) (s₁ : Shared) : Prop :=
  ∃ (r : Addr) (b : Int) (t u v : Tok) (n : Nat) (news : List (Addr × Obj)) (f : Nat → List Int), xv = .ref r ∧ A.handled = none ∧ Fr h₀ L s₁.heap m ∧ News h₀ L s₁.heap news ∧ IsRange s₁.heap r 0 b 1 t u v ∧ Builtin.Range.small 0 b 1 = true ∧ Builtin.Range.rangeSize 0 b 1 = ((n : Nat) : Int) ∧ n ≤ 1000 ∧ (∀ i, i < n → (f i).length ≤ 2) ∧
    (∀ g, ∀ (i : Nat) ys I oI C oC D m₂ h tk t (E' : Value → Shared → Prop), i < n → NsObj oC m₂ → m₂ x = some (.int (0 + (i : Int)) t) → Fr h₀ L h m → News h₀ L h ((I, oI) :: (C, oC) :: (D, lst ys) :: news) → Off3 I C D news → ((@Ne Nat I C) ∧ (@Ne Nat I D) ∧ (@Ne Nat C D)) →
      wpAny (model prog w) A (eval i1 (compEnvC scope cl C env)) (NTurn h₀ L m { ({ s₁ with heap := g } : Shared) with heap := h, toks := tk } I oI C oC D (lst ys) news (f i)) E' { ({ s₁ with heap := g } : Shared) with heap := h, toks := tk }) ∧
    (∀ D ys h tk, Fr h₀ L h (fun y => if y = z then some (.ref D) else m y) → News h₀ L h ((D, lst ys) :: news) → (∀ p ∈ news, p.1 < D) → IntsAre ys ((List.range n).flatMap f) → Q .next { s₁ with heap := h, toks := tk })
theorem NSrc.range {i1 : Expr} {x z : Str} {scope : Scope} {cl : List (Str × Addr)} {Q : Flow → Shared → Prop} {r : Addr} {b : Int} {t u v : Tok} {n : Nat} {news : List (Addr × Obj)} {s₁ : Shared} (f : Nat → List Int)
    (hh : A.handled = none) (F : Fr h₀ L s₁.heap m) (N : News h₀ L s₁.heap news) (hr : IsRange s₁.heap r 0 b 1 t u v) (hsm : Builtin.Range.small 0 b 1 = true) (hn : Builtin.Range.rangeSize 0 b 1 = ((n : Nat) : Int)) (hsz : n ≤ 1000) (hf : ∀ i, i < n → (f i).length ≤ 2)
    (turn : ∀ g, ∀ (i : Nat) ys I oI C oC D m₂ h tk t (E' : Value → Shared → Prop), i < n → NsObj oC m₂ → m₂ x = some (.int (0 + (i : Int)) t) → Fr h₀ L h m → News h₀ L h ((I, oI) :: (C, oC) :: (D, lst ys) :: news) → Off3 I C D news → ((@Ne Nat I C) ∧ (@Ne Nat I D) ∧ (@Ne Nat C D)) →
      wpAny (model prog w) A (eval i1 (compEnvC scope cl C env)) (NTurn h₀ L m { ({ s₁ with heap := g } : Shared) with heap := h, toks := tk } I oI C oC D (lst ys) news (f i)) E' { ({ s₁ with heap := g } : Shared) with heap := h, toks := tk })
    (done : ∀ D ys h tk, Fr h₀ L h (fun y => if y = z then some (.ref D) else m y) → News h₀ L h ((D, lst ys) :: news) → (∀ p ∈ news, p.1 < D) → IntsAre ys ((List.range n).flatMap f) → Q .next { s₁ with heap := h, toks := tk }) :
    NSrc prog w A h₀ L m env i1 x z scope cl Q (.ref r) s₁ := ⟨r, b, t, u, v, n, news, f, rfl, hh, F, N, hr, hsm, hn, hsz, hf, turn, done⟩
theorem Assign_N {x y z : Str} {px py py' pz : Pos} {i0 i1 : Expr} {scope : Scope} {cl : List (Str × Addr)} {pos spos : Pos} {Q : Flow → Shared → Prop} (_F₀ : Fr h₀ L s.heap m) (hLe : env.locals = L)
    (hsw : swapsWith (.ListComp (.Name y py') [⟨.Name x px, i0, [], 0⟩, ⟨.Name y py, i1, [], 0⟩] scope pos) (some (.Name z pz)) spos.line env = pure true)
    (hclos : closureFor scope env = pure cl) (hcell : ∀ z ∈ scope.names, z.2 ≠ .cell) (hkind : scope.kind = .function)
    (hnames : ∀ z ∈ scope.names, z.2 = .local → scope.names.lookup z.1 = some .local) (hx : scope.names.lookup x = some .local) (hy : scope.names.lookup y = some .local) (hyd : (y == ("__debug__" : Str)) = false)
    (hz : env.kindOf z = some .local) (hp : (env.scope.kind == .class || (env.scope.kind == .module && env.locals != env.globals)) = false)
    (hfold1 : ∀ C v, foldedSetIterable i1 (compEnvC scope cl C env) v = pure v)
    (h : wpAny (model prog w) A (eval i0 env) (NSrc prog w A h₀ L m env i1 x z scope cl Q) E s)
    (hs : ∀ x, foldedSetIterable i0 env x = pure x := by intro _; rfl) :
    wpAny (model prog w) A (exec (.Assign [.Name z pz] (.ListComp (.Name y py') [⟨.Name x px, i0, [], 0⟩, ⟨.Name y py, i1, [], 0⟩] scope pos) spos) env) Q E s := by
  subst hLe
  rw [exec_Assign_Name_used _ _ _ _ hsw]
  refine wpAny_bind (wpAny_standAt (wpAny_bind ?_))
  show wpAny _ A (do let _ ← comprehension (.ListComp (.Name y py') [⟨.Name x px, i0, [], 0⟩, ⟨.Name y py, i1, [], 0⟩] scope pos) scope env _ (newList []) false (eval i0 env) (some (assign (.Name z pz) env))) _ _ s
  refine wpAny_bind (wpAny_mono (wpAny_comprehension_free (use := some (assign (.Name z pz) env)) (Q := fun _ s' => Q .next s') rfl hs hclos hkind hnames
    (wpAny_mono h (fun xv s₁ h₁ => ?_) fun _ _ e => e)) (fun _ s' hq => wpAny_pure (wpAny_pure hq)) fun _ _ e => e)
  obtain ⟨r, b, t, u, v, n, news, f, rfl, hh, F, N, hr, hsm, hn, hsz, hf, turn, done⟩ := h₁
  refine wpAny_pyIter_range hr hsm ?_
  refine block_N f hh hsz hf hcell hkind hx hy hyd (by show IsRangeIter _ _ _ _ _; rw [hn]; simpa using Heap.get?_push_size _ rfl) (F.keeps fun _ _ e => Heap.get?_push_of_some _ e) (N.grown fun _ _ e => Heap.get?_push_of_some _ e) (Nat.ne_of_lt F.ns.lt) (next_is_new F) (fun p hp => Nat.ne_of_lt (Heap.lt_size (N p hp).1)) hfold1 (turn _) ?_
  intro D C h' tk m' ys F' N' hn hC₀ hD₀ hCL hDL hCD ltD offC hi
  show wpAny _ A (assign (.Name z pz) env (.ref D)) _ _ _
  refine wpAny_assign_Name (wpAny_storeName_local hz F'.ns (fun h₂ hn₂ hs₂ => ?_) hp)
  have hL₀ : h₀.get? env.locals = none := Heap.get?_none_of_le F'.above
  have F₂ : Fr h₀ env.locals h₂ (fun q => if q = z then some (.ref D) else m q) := ⟨hn₂, fun b o e => hs₂.extBut b o (fun q => by rw [q, hL₀] at e; cases e) (F'.keep b o e), F'.above⟩
  refine ⟨m', hn.sameBut hs₂ hCL, fun h'' hs'' => done D ys h'' _ (F₂.change hs'' hCL hC₀) (fun p hp => ?_) ltD hi⟩
  have zz : h₂.get? p.1 = some p.2 := hs₂.extBut _ _ (N' p hp).2.1 (N' p hp).1
  refine ⟨hs''.extBut _ _ ?_ zz, (N' p hp).2⟩
  rcases List.mem_cons.mp hp with rfl | hp
  · exact Ne.symm hCD
  · exact offC p hp
end
end
end TextNC
end Mine
namespace Mine
section TextPL1
set_option maxRecDepth 100000
set_option maxHeartbeats 1000000
open PySem.StrLaws PySem.Builtin PySem.Builtin.Str
noncomputable abbrev mk (l : List Nat) : Str := ⟨l.toArray⟩
theorem mk_toList (l : List Nat) : (mk l).cps.toList = l := by simp [mk]
theorem mk_len (l : List Nat) : (mk l).length = l.length := by show l.toArray.size = _; simp
theorem mk_of (x : Str) : mk x.cps.toList = x := by simp [mk]
inductive SepOk : List Nat → Prop
  | lf : SepOk [10]
  | crlf : SepOk [13, 10]
  | cr : SepOk [13]
noncomputable abbrev NB (l : List Nat) : Prop := ∀ c ∈ l, Unicode.isLineBreak c = false
noncomputable abbrev whole (s : List Nat) (init : List (List Nat)) (last : List Nat) : List Nat := init.flatMap (· ++ s) ++ last
theorem nb_head {s : List Nat} {init : List (List Nat)} {last : List Nat} (hs : SepOk s) (h1 : ∀ q ∈ init, NB q) (h2 : NB last) : (whole s init last).head? ≠ some 10 ∨ s = [10] := by
  cases hs with
  | lf => exact .inr rfl
  | crlf =>
    left
    cases init with
    | nil =>
      cases last with
      | nil => simp [whole]
      | cons c r =>
        intro h
        have : c = 10 := by simpa [whole] using h
        have := h2 c List.mem_cons_self
        subst c
        revert this; decide
    | cons q qs =>
      cases q with
      | nil => simp [whole]
      | cons c r =>
        intro h
        have : c = 10 := by simpa [whole] using h
        have := h1 _ List.mem_cons_self c List.mem_cons_self
        subst c
        revert this; decide
  | cr =>
    left
    cases init with
    | nil =>
      cases last with
      | nil => simp [whole]
      | cons c r =>
        intro h
        have : c = 10 := by simpa [whole] using h
        have := h2 c List.mem_cons_self
        subst c
        revert this; decide
    | cons q qs =>
      cases q with
      | nil => simp [whole]
      | cons c r =>
        intro h
        have : c = 10 := by simpa [whole] using h
        have := h1 _ List.mem_cons_self c List.mem_cons_self
        subst c
        revert this; decide

/-! lines -/
noncomputable def lsStep (x : Str) (st : LsSt) (i : Nat) : LsSt :=
  if (decide (st.snd ≤ i) && Unicode.isLineBreak (x.cps.getD i 0)) = true then (st.fst.push (st.snd, i, lsNext x i), lsNext x i) else (st.fst, st.snd)
theorem ls_fold (x : Str) : ∀ (l : List Nat) (st : LsSt), Id.run (forIn (m := Id) l st (lsBody x)) = l.foldl (lsStep x) st
  | [], _ => rfl
  | a :: l, st => by
    rw [List.forIn_cons, List.foldl_cons, ← ls_fold x l]
    unfold lsBody lsStep
    split <;> rfl
theorem at_get {L pre : List Nat} {rest : List Nat} (h : L = pre ++ rest) {x : Str} (hx : x.cps.toList = L) (i : Nat) : x.cps[pre.length + i]? = rest[i]? := by
  rw [← Array.getElem?_toList, hx, h, List.getElem?_append_right (by omega)]
  congr 1; omega
theorem at_getD {L pre : List Nat} {rest : List Nat} (h : L = pre ++ rest) {x : Str} (hx : x.cps.toList = L) (i : Nat) : x.cps.getD (pre.length + i) 0 = (rest[i]?).getD 0 := by
  rw [← at_get h hx i]
  simp
theorem ls_skip (x : Str) {start : Nat} {acc : Array (Nat × Nat × Nat)} : ∀ (m cur : Nat), (∀ i, cur ≤ i → i < cur + m → start ≤ i → Unicode.isLineBreak (x.cps.getD i 0) = false) → (List.range' cur m).foldl (lsStep x) (acc, start) = (acc, start)
  | 0, _, _ => rfl
  | m + 1, cur, h => by
    rw [List.range'_succ, List.foldl_cons]
    have e : lsStep x (acc, start) cur = (acc, start) := by
      unfold lsStep
      rw [if_neg]
      intro hc
      rw [Bool.and_eq_true, decide_eq_true_eq] at hc
      rw [h cur (Nat.le_refl _) (by omega) hc.1] at hc
      exact absurd hc.2 Bool.false_ne_true
    rw [e]
    exact ls_skip x m (cur + 1) fun i h1 h2 h3 => h i (by omega) (by omega) h3
theorem ls_sep {s pre rest L : List Nat} {x : Str} {start : Nat} {acc : Array (Nat × Nat × Nat)} (hs : SepOk s) (hL : L = pre ++ (s ++ rest)) (hx : x.cps.toList = L) (hst : start ≤ pre.length) (hr : rest.head? ≠ some 10 ∨ s = [10]) :
    (List.range' pre.length s.length).foldl (lsStep x) (acc, start) = (acc.push (start, pre.length, pre.length + s.length), pre.length + s.length) := by
  have g0 := at_getD hL hx 0
  have g1 := at_get hL hx 1
  rw [Nat.add_zero] at g0
  cases hs with
  | lf =>
    show lsStep x (acc, start) pre.length = _
    unfold lsStep
    have e0 : x.cps.getD pre.length 0 = 10 := by rw [g0]; rfl
    have hc : (decide ((acc, start).snd ≤ pre.length) && Unicode.isLineBreak (x.cps.getD pre.length 0)) = true := by
      rw [e0, Bool.and_eq_true, decide_eq_true_eq]; exact ⟨hst, by decide⟩
    rw [if_pos hc]
    have en : lsNext x pre.length = pre.length + 1 := by unfold lsNext; rw [e0]; rfl
    rw [en]; rfl
  | cr =>
    show lsStep x (acc, start) pre.length = _
    unfold lsStep
    have e0 : x.cps.getD pre.length 0 = 13 := by rw [g0]; rfl
    have hc : (decide ((acc, start).snd ≤ pre.length) && Unicode.isLineBreak (x.cps.getD pre.length 0)) = true := by
      rw [e0, Bool.and_eq_true, decide_eq_true_eq]; exact ⟨hst, by decide⟩
    rw [if_pos hc]
    have e1 : (x.cps[pre.length + 1]? == some 10) = false := by
      rw [g1]
      have : ([13] ++ rest)[1]? = rest.head? := by cases rest <;> rfl
      rw [this]
      rcases hr with hr | hr
      · simpa using hr
      · cases hr
    have en : lsNext x pre.length = pre.length + 1 := by unfold lsNext; rw [e1]; simp
    rw [en]; rfl
  | crlf =>
    show lsStep x (lsStep x (acc, start) pre.length) (pre.length + 1) = _
    have e0 : x.cps.getD pre.length 0 = 13 := by rw [g0]; rfl
    have e1 : x.cps[pre.length + 1]? = some 10 := by rw [g1]; rfl
    have hc : (decide ((acc, start).snd ≤ pre.length) && Unicode.isLineBreak (x.cps.getD pre.length 0)) = true := by
      rw [e0, Bool.and_eq_true, decide_eq_true_eq]; exact ⟨hst, by decide⟩
    have en : lsNext x pre.length = pre.length + 2 := by unfold lsNext; rw [e0, e1]; rfl
    have es : lsStep x (acc, start) pre.length = (acc.push (start, pre.length, pre.length + 2), pre.length + 2) := by
      unfold lsStep
      rw [if_pos hc, en]
    rw [es]
    unfold lsStep
    rw [if_neg]
    · rfl
    · intro hc
      rw [Bool.and_eq_true, decide_eq_true_eq] at hc
      exact absurd hc.1 (by show ¬ (pre.length + 2 ≤ pre.length + 1); omega)
noncomputable def spansOf (s : List Nat) : Nat → List (List Nat) → List (Nat × Nat × Nat)
  | _, [] => []
  | c, q :: qs => (c, c + q.length, c + q.length + s.length) :: spansOf s (c + q.length + s.length) qs
theorem ls_all {s L last : List Nat} {x : Str} (hs : SepOk s) (hx : x.cps.toList = L) (h2 : NB last) : ∀ (init : List (List Nat)) (pre : List Nat) (acc : Array (Nat × Nat × Nat)), (∀ q ∈ init, NB q) → L = pre ++ whole s init last →
    ∃ acc', (List.range' pre.length (whole s init last).length).foldl (lsStep x) (acc, pre.length) = (acc', L.length - last.length) ∧ acc'.toList = acc.toList ++ spansOf s pre.length init
  | [], pre, acc, _, hL => by
    refine ⟨acc, ?_, by simp [spansOf]⟩
    have hw : whole s [] last = last := rfl
    rw [hw] at hL ⊢
    have e : L.length - last.length = pre.length := by rw [hL, List.length_append]; omega
    rw [e]
    refine ls_skip x _ _ fun i h3 h4 _ => ?_
    have g := at_getD hL hx (i - pre.length)
    rw [show pre.length + (i - pre.length) = i from by omega] at g
    rw [g]
    have hi : i - pre.length < last.length := by omega
    rw [List.getElem?_eq_getElem hi]
    exact h2 _ (List.getElem_mem hi)
  | q :: qs, pre, acc, h1, hL => by
    have hq := h1 q List.mem_cons_self
    have h1' : ∀ r ∈ qs, NB r := fun r hr => h1 r (List.mem_cons_of_mem _ hr)
    have hw : whole s (q :: qs) last = q ++ (s ++ whole s qs last) := by simp [whole]
    rw [hw] at hL ⊢
    have el : (q ++ (s ++ whole s qs last)).length = q.length + (s.length + (whole s qs last).length) := by simp only [List.length_append]
    rw [el, ← List.range'_append_1, ← List.range'_append_1, List.foldl_append, List.foldl_append]
    rw [ls_skip x (start := pre.length) q.length pre.length]
    · have hL2 : L = (pre ++ q) ++ (s ++ whole s qs last) := by rw [hL]; simp
      have hlen : (pre ++ q).length = pre.length + q.length := List.length_append
      have hsep := ls_sep (start := pre.length) (acc := acc) hs hL2 hx (by omega) (nb_head hs h1' h2)
      rw [hlen] at hsep
      rw [hsep]
      have hL3 : L = (pre ++ q ++ s) ++ whole s qs last := by rw [hL]; simp
      have hlen3 : (pre ++ q ++ s).length = pre.length + q.length + s.length := by simp only [List.length_append]
      obtain ⟨acc', e1, e2⟩ := ls_all hs hx h2 qs (pre ++ q ++ s) (acc.push (pre.length, pre.length + q.length, pre.length + q.length + s.length)) h1' hL3
      rw [hlen3] at e1 e2
      refine ⟨acc', e1, ?_⟩
      rw [e2]
      simp [spansOf]
    · intro i h3 h4 _
      have g := at_getD hL hx (i - pre.length)
      rw [show pre.length + (i - pre.length) = i from by omega] at g
      rw [g]
      have hi : i - pre.length < q.length := by omega
      rw [List.getElem?_append_left hi, List.getElem?_eq_getElem hi]
      exact hq _ (List.getElem_mem hi)
theorem sub_at {L pre q rest : List Nat} {x : Str} (hx : x.cps.toList = L) (hL : L = pre ++ (q ++ rest)) : strSub x pre.length (pre.length + q.length) = mk q := by
  apply Str.ext'
  apply Array.toList_inj.mp
  rw [strSub_toList, hx, hL]
  have : pre.length + q.length - pre.length = q.length := by omega
  rw [this]
  simp
theorem spans_map {s L last : List Nat} {x : Str} (hx : x.cps.toList = L) : ∀ (init : List (List Nat)) (pre : List Nat), L = pre ++ whole s init last → (spansOf s pre.length init).map (fun (p : Nat × Nat × Nat) => strSub x p.1 p.2.1) = init.map mk
  | [], _, _ => rfl
  | q :: qs, pre, hL => by
    have hw : whole s (q :: qs) last = q ++ (s ++ whole s qs last) := by simp [whole]
    rw [hw] at hL
    have hlen3 : (pre ++ q ++ s).length = pre.length + q.length + s.length := by simp only [List.length_append]
    have ih := spans_map hx qs (pre ++ q ++ s) (s := s) (last := last) (by rw [hL]; simp)
    rw [hlen3] at ih
    show strSub x pre.length (pre.length + q.length) :: (spansOf s (pre.length + q.length + s.length) qs).map _ = mk q :: qs.map mk
    rw [ih, sub_at hx hL]
theorem lines_is (x : Str) : Txt.lines x = (lineSpans x).map fun (p : Nat × Nat × Nat) => strSub x p.1 p.2.1 := by
  have e : linesOf x = (lineSpans x).map fun (p : Nat × Nat × Nat) => strSub x p.1 p.2.1 := by
    unfold linesOf lineCuts
    rw [List.map_map]
    apply List.map_congr_left
    intro ⟨i, j, k⟩ _
    rfl
  unfold Txt.lines
  split
  · rename_i h
    have h' : lineCuts x = [(0, x.length)] := eq_of_beq h
    rw [← e]
    unfold linesOf
    rw [h']
    show [x] = [strSub x 0 x.length]
    rw [sub_whole]
  · exact e
theorem lines_of {s last : List Nat} {init : List (List Nat)} (hs : SepOk s) (h1 : ∀ q ∈ init, NB q) (h2 : NB last) :
    Txt.lines (mk (whole s init last)) = (init ++ if last = [] then [] else [last]).map mk := by
  rw [lines_is, ls_eq, ls_fold]
  have hx := mk_toList (whole s init last)
  obtain ⟨acc', e1, e2⟩ := ls_all hs hx h2 init [] #[] h1 rfl
  have hl : (mk (whole s init last)).length = (whole s init last).length := mk_len _
  rw [hl]
  have e1' : (List.range' 0 (whole s init last).length).foldl (lsStep (mk (whole s init last))) (#[], 0) = (acc', (whole s init last).length - last.length) := e1
  rw [e1']
  have hm : (spansOf s 0 init).map (fun (p : Nat × Nat × Nat) => strSub (mk (whole s init last)) p.1 p.2.1) = init.map mk := spans_map (s := s) (last := last) hx init [] rfl
  unfold lsEnd
  have e2' : acc'.toList = spansOf s 0 init := by rw [e2]; rfl
  by_cases hl0 : last = []
  · subst hl0
    rw [if_pos rfl, if_neg (by rw [hl]; simp), e2', List.append_nil]
    exact hm
  · have hpos : 0 < last.length := List.length_pos_iff.mpr hl0
    have hwl : (whole s init last).length = (init.flatMap (· ++ s)).length + last.length := List.length_append
    rw [if_neg hl0, if_pos (by rw [hl]; show _ - _ < _; omega)]
    rw [Array.toList_push, e2', List.map_append, hm, List.map_append]
    congr 1
    show [strSub _ ((whole s init last).length - last.length) (mk (whole s init last)).length] = [mk last]
    rw [hl]
    have hsub := sub_at (x := mk (whole s init last)) (pre := init.flatMap (· ++ s)) (q := last) (rest := []) hx (by simp [whole])
    rw [show (whole s init last).length - last.length = (init.flatMap (· ++ s)).length from by omega]
    rw [hwl, hsub]

/-! split -/
noncomputable def ocStep (x y : Str) (hi limit : Nat) (st : Array Nat × Nat) (i : Nat) : Array Nat × Nat :=
  if ((st.fst.size < limit ∧ st.snd ≤ i) ∧ i + y.length ≤ hi) ∧ subAt x y i = true then (st.fst.push i, i + y.length) else (st.fst, st.snd)
theorem oc_fold (x y : Str) (hi limit : Nat) : ∀ (l : List Nat) (st : Array Nat × Nat), (forIn l st (occBody x y hi limit)).run = l.foldl (ocStep x y hi limit) st
  | [], _ => rfl
  | a :: l, st => by
    rw [List.forIn_cons, List.foldl_cons, ← oc_fold x y hi limit l]
    unfold occBody ocStep
    split <;> rfl
theorem oc_skip (x y : Str) {hi limit free : Nat} {acc : Array Nat} : ∀ (m cur : Nat), (∀ i, cur ≤ i → i < cur + m → free ≤ i → i + y.length ≤ hi → subAt x y i = false) → (List.range' cur m).foldl (ocStep x y hi limit) (acc, free) = (acc, free)
  | 0, _, _ => rfl
  | m + 1, cur, h => by
    rw [List.range'_succ, List.foldl_cons]
    have e : ocStep x y hi limit (acc, free) cur = (acc, free) := by
      unfold ocStep
      rw [if_neg]
      rintro ⟨⟨⟨_, h1⟩, h2⟩, h3⟩
      rw [h cur (Nat.le_refl _) (by omega) h1 h2] at h3
      exact absurd h3 Bool.false_ne_true
    rw [e]
    exact oc_skip x y m (cur + 1) fun i h1 h2 h3 h4 => h i (by omega) (by omega) h3 h4
theorem sep_head {s : List Nat} (hs : SepOk s) : ∃ c r, s = c :: r ∧ Unicode.isLineBreak c = true ∧ r.length ≤ 1 := by
  cases hs
  · exact ⟨10, [], rfl, by decide, by decide⟩
  · exact ⟨13, [10], rfl, by decide, by decide⟩
  · exact ⟨13, [], rfl, by decide, by decide⟩
theorem sub_no {s L pre rest : List Nat} {c : Nat} {x : Str} (hs : SepOk s) (hx : x.cps.toList = L) (hL : L = pre ++ rest) {i : Nat} (hi : rest[i]? = some c) (hc : Unicode.isLineBreak c = false) : subAt x (mk s) (pre.length + i) = false := by
  rw [subAt_eq, mk_toList, mk_len, hx, hL]
  obtain ⟨d, r, rfl, hd, _⟩ := sep_head hs
  obtain ⟨h1, h2⟩ := List.getElem?_eq_some_iff.mp hi
  have e : (pre ++ rest).drop (pre.length + i) = rest[i] :: rest.drop (i + 1) := by
    rw [List.drop_append, List.drop_eq_nil_of_le (by omega), List.nil_append, show pre.length + i - pre.length = i from by omega, List.drop_eq_getElem_cons h1]
  rw [e, h2]
  show (c :: _ == d :: r) = false
  have hcd : c ≠ d := by rintro rfl; rw [hc] at hd; cases hd
  rw [beq_eq_false_iff_ne]
  intro h
  injection h with h _
  exact hcd h
theorem sub_yes {s L pre rest : List Nat} {x : Str} (hx : x.cps.toList = L) (hL : L = pre ++ (s ++ rest)) : subAt x (mk s) pre.length = true := by
  rw [subAt_eq, mk_toList, mk_len, hx, hL]
  simp
theorem oc_sep {s pre rest L : List Nat} {x : Str} {free limit : Nat} {acc : Array Nat} (hs : SepOk s) (hL : L = pre ++ (s ++ rest)) (hx : x.cps.toList = L) (hst : free ≤ pre.length) (hacc : acc.size < limit) :
    (List.range' pre.length s.length).foldl (ocStep x (mk s) L.length limit) (acc, free) = (acc.push pre.length, pre.length + s.length) := by
  have hy := sub_yes hx hL
  have hlen : L.length = pre.length + (s.length + rest.length) := by rw [hL]; simp only [List.length_append]
  have e0 : ocStep x (mk s) L.length limit (acc, free) pre.length = (acc.push pre.length, pre.length + s.length) := by
    unfold ocStep
    rw [if_pos ⟨⟨⟨hacc, hst⟩, by rw [mk_len]; omega⟩, hy⟩, mk_len]
  obtain ⟨d, r, rfl, _, hr⟩ := sep_head hs
  rw [List.length_cons, List.range'_succ, List.foldl_cons]
  rw [List.length_cons] at e0
  rw [e0]
  refine oc_skip x _ _ _ fun i h1 h2 h3 _ => ?_
  omega
noncomputable def cutsOf (s : List Nat) : Nat → List (List Nat) → List Nat
  | _, [] => []
  | c, q :: qs => (c + q.length) :: cutsOf s (c + q.length + s.length) qs
theorem oc_all {s L last : List Nat} {x : Str} {limit : Nat} (hs : SepOk s) (hx : x.cps.toList = L) (h2 : NB last) (hlim : L.length < limit) : ∀ (init : List (List Nat)) (pre : List Nat) (acc : Array Nat), (∀ q ∈ init, NB q) → L = pre ++ whole s init last → acc.size ≤ pre.length →
    ((List.range' pre.length ((whole s init last).length + 1)).foldl (ocStep x (mk s) L.length limit) (acc, pre.length)).1.toList = acc.toList ++ cutsOf s pre.length init
  | [], pre, acc, _, hL, _ => by
    have hw : whole s [] last = last := rfl
    rw [hw] at hL ⊢
    have hlen : L.length = pre.length + last.length := by rw [hL, List.length_append]
    have hsl : 1 ≤ (mk s).length := by rw [mk_len]; obtain ⟨d, r, rfl, _⟩ := sep_head hs; simp
    rw [oc_skip]
    · simp [cutsOf]
    · intro i h3 h4 _ h5
      have hi : i - pre.length < last.length := by omega
      have := sub_no hs hx hL (i := i - pre.length) (List.getElem?_eq_getElem hi) (h2 _ (List.getElem_mem hi))
      rw [show pre.length + (i - pre.length) = i from by omega] at this
      exact this
  | q :: qs, pre, acc, h1, hL, ha => by
    have hq := h1 q List.mem_cons_self
    have h1' : ∀ r ∈ qs, NB r := fun r hr => h1 r (List.mem_cons_of_mem _ hr)
    have hw : whole s (q :: qs) last = q ++ (s ++ whole s qs last) := by simp [whole]
    rw [hw] at hL ⊢
    have el : (q ++ (s ++ whole s qs last)).length + 1 = q.length + (s.length + ((whole s qs last).length + 1)) := by simp only [List.length_append]; omega
    have hsl : 1 ≤ s.length := by obtain ⟨d, r, rfl, _⟩ := sep_head hs; simp
    have hlen : L.length = pre.length + (q.length + (s.length + (whole s qs last).length)) := by rw [hL]; simp only [List.length_append]
    rw [el, ← List.range'_append_1, ← List.range'_append_1, List.foldl_append, List.foldl_append]
    rw [oc_skip x (mk s) q.length pre.length]
    · have hL2 : L = (pre ++ q) ++ (s ++ whole s qs last) := by rw [hL]; simp
      have hlen2 : (pre ++ q).length = pre.length + q.length := List.length_append
      have hsep := oc_sep (free := pre.length) (limit := limit) (acc := acc) hs hL2 hx (by omega) (by omega)
      rw [hlen2] at hsep
      rw [hsep]
      have hL3 : L = (pre ++ q ++ s) ++ whole s qs last := by rw [hL]; simp
      have hlen3 : (pre ++ q ++ s).length = pre.length + q.length + s.length := by simp only [List.length_append]
      have ih := oc_all hs hx h2 hlim qs (pre ++ q ++ s) (acc.push (pre.length + q.length)) h1' hL3 (by rw [Array.size_push, hlen3]; omega)
      rw [hlen3] at ih
      rw [ih]
      simp [cutsOf]
    · intro i h3 h4 _ _
      have hi : i - pre.length < q.length := by omega
      have := sub_no hs hx hL (i := i - pre.length) (c := q[i - pre.length]) (by rw [List.getElem?_append_left hi, List.getElem?_eq_getElem hi]) (hq _ (List.getElem_mem hi))
      rw [show pre.length + (i - pre.length) = i from by omega] at this
      exact this
theorem parts_map {s L last : List Nat} {x : Str} (hx : x.cps.toList = L) : ∀ (init : List (List Nat)) (pre : List Nat), L = pre ++ whole s init last → partsFrom x s.length pre.length (cutsOf s pre.length init) = (init ++ [last]).map mk
  | [], pre, hL => by
    have hw : whole s [] last = last := rfl
    rw [hw] at hL
    show [strSub x pre.length x.length] = [mk last]
    have := sub_at (x := x) (pre := pre) (q := last) (rest := []) hx (by rw [hL]; simp)
    have hl : x.length = pre.length + last.length := by
      have h : x.length = L.length := by rw [← hx]; exact Array.length_toList.symm
      rw [h, hL, List.length_append]
    rw [hl, this]
  | q :: qs, pre, hL => by
    have hw : whole s (q :: qs) last = q ++ (s ++ whole s qs last) := by simp [whole]
    rw [hw] at hL
    have hlen3 : (pre ++ q ++ s).length = pre.length + q.length + s.length := by simp only [List.length_append]
    have ih := parts_map hx qs (pre ++ q ++ s) (s := s) (last := last) (by rw [hL]; simp)
    rw [hlen3] at ih
    show strSub x pre.length (pre.length + q.length) :: partsFrom x s.length (pre.length + q.length + s.length) (cutsOf s (pre.length + q.length + s.length) qs) = mk q :: (qs ++ [last]).map mk
    rw [ih, sub_at hx hL]
theorem kind_ge (x : Str) : 1 ≤ Builtin.Str.strKind x := by unfold Builtin.Str.strKind; (repeat' split) <;> decide
theorem kind_sep {s : List Nat} (hs : SepOk s) : Builtin.Str.strKind (mk s) = 1 := by cases hs <;> decide +kernel
theorem split_of {s last : List Nat} {init : List (List Nat)} (hs : SepOk s) (h1 : ∀ q ∈ init, NB q) (h2 : NB last) :
    Txt.split (mk (whole s init last)) (mk s) = (init ++ [last]).map mk := by
  have hx := mk_toList (whole s init last)
  have hl : (mk (whole s init last)).length = (whole s init last).length := mk_len _
  have hocc : occurrences (mk (whole s init last)) (mk s) 0 (mk (whole s init last)).length ((mk (whole s init last)).length + 1) = cutsOf s 0 init := by
    rw [occ_eq, oc_fold]
    have h := oc_all (x := mk (whole s init last)) (limit := (whole s init last).length + 1) hs hx h2 (Nat.lt_succ_self _) init [] #[] h1 rfl (Nat.le_refl _)
    rw [hl]
    exact h
  unfold Txt.split
  rw [hocc]
  by_cases hi : init = []
  · subst hi
    have e : mk (whole s [] last) = mk last := rfl
    split
    · rw [e]; rfl
    · rw [if_pos (by rfl), e]; rfl
  · rw [if_neg, if_neg]
    · rw [partsBetween_eq, mk_len]
      exact parts_map hx init [] rfl
    · cases init with
      | nil => exact absurd rfl hi
      | cons q qs => simp [cutsOf]
    · rw [kind_sep hs, Bool.or_eq_true, decide_eq_true_eq, decide_eq_true_eq, hl, mk_len]
      have hk := kind_ge (mk (whole s init last))
      have : s.length ≤ (whole s init last).length := by
        cases init with
        | nil => exact absurd rfl hi
        | cons q qs => simp only [whole, List.flatMap_cons, List.length_append]; omega
      omega
/-- pieces put together by a line end -/
theorem join_of (s : List Nat) : ∀ (init : List (List Nat)) (last : List Nat), Txt.join (mk s) ((init ++ [last]).map mk) = mk (whole s init last) := by
  have ap : ∀ a b : Str, (a ++ b).cps.toList = a.cps.toList ++ b.cps.toList := fun a b => by
    show (a.cps ++ b.cps).toList = _
    rw [Array.toList_append]
  have key : ∀ (init : List (List Nat)) (last : List Nat), (Str.join (mk s) ((init ++ [last]).map mk)).cps.toList = whole s init last := by
    intro init
    induction init with
    | nil => intro last; show (mk last).cps.toList = _; rw [mk_toList]; rfl
    | cons q qs ih =>
      intro last
      have h := ih last
      cases hq : (qs ++ [last]).map mk with
      | nil => simp at hq
      | cons a r =>
        rw [List.cons_append, List.map_cons, hq]
        show (mk q ++ mk s ++ Str.join (mk s) (a :: r)).cps.toList = _
        rw [ap, ap, ← hq, h, mk_toList, mk_toList]
        simp [whole]
  intro init last
  show Builtin.Str.glued _ _ = _
  rw [StrLaws.glued_eq_join]
  have h := key init last
  rw [← mk_of (Str.join (mk s) ((init ++ [last]).map mk)), h]
end TextPL1
end Mine
namespace Mine
section TextPL2
set_option maxRecDepth 100000
set_option maxHeartbeats 1000000
open PySem.StrLaws
/-! texts as lists -/
theorem item_lastL (l : List Nat) (c : Nat) : Txt.item (mk (l ++ [c])) (-1) = mk [c] := by
  have hl : (mk (l ++ [c])).length = l.length + 1 := by rw [mk_len]; simp
  have h : Txt.charAt (mk (l ++ [c])) (-1) = some c := by
    refine at_neg (by decide) (by rw [hl]; omega) ?_
    rw [← Array.getElem?_toList, mk_toList, hl]
    have : ((-1 : Int) + ((l.length + 1 : Nat) : Int)).toNat = l.length := by omega
    rw [this]; simp
  unfold Txt.item
  rw [h]; rfl
theorem slice_toL (p q : List Nat) {j : Int} (hj : j = (p.length : Int)) : Txt.slice (mk (p ++ q)) (some 0) (some j) = mk p :=
  slice_at (p := []) (q := p) (r := q) (by rw [mk_toList]; rfl) rfl (by rw [hj]; simp)
theorem slice_frL (p q : List Nat) {i : Int} (hi : i = (p.length : Int)) : Txt.slice (mk (p ++ q)) (some i) none = mk q :=
  slice_from (by rw [mk_toList]) hi
theorem slice_neg_lo (x : Str) (u : Option Int) {i : Int} (h0 : i < 0) (h1 : -(x.length : Int) ≤ i) : Txt.slice x (some i) u = Txt.slice x (some (i + x.length)) u := sliceText_neg_lo x u h0 h1
theorem slice_neg_hi (x : Str) (l : Option Int) {j : Int} (h0 : j < 0) (h1 : -(x.length : Int) ≤ j) : Txt.slice x l (some j) = Txt.slice x l (some (j + x.length)) := sliceText_neg_hi x l h0 h1
theorem slice_lastL (p q : List Nat) (hq : q ≠ []) {i : Int} (hi : i = -(q.length : Int)) : Txt.slice (mk (p ++ q)) (some i) none = mk q := by
  have hl : (mk (p ++ q)).length = p.length + q.length := by rw [mk_len, List.length_append]
  have : 0 < q.length := List.length_pos_iff.mpr hq
  rw [slice_neg_lo _ _ (by omega) (by rw [hl]; omega)]
  exact slice_frL p q (by rw [hl, hi]; omega)
theorem slice_initL (p : List Nat) (c : Nat) : Txt.slice (mk (p ++ [c])) (some 0) (some (-1)) = mk p := by
  have hl : (mk (p ++ [c])).length = p.length + 1 := by rw [mk_len]; simp
  rw [slice_neg_hi _ _ (by decide) (by rw [hl]; omega)]
  exact slice_toL p [c] (by rw [hl]; omega)
theorem slice_initN (p : List Nat) (c : Nat) : Txt.slice (mk (p ++ [c])) none (some (-1)) = mk p := by
  have e : Txt.slice (mk (p ++ [c])) none (some (-1)) = Txt.slice (mk (p ++ [c])) (some 0) (some (-1)) := by
    unfold Txt.slice
    rw [sliceIdx_none_lo]
  rw [e, slice_initL]
theorem slice_wholeL (p : List Nat) : Txt.slice (mk p) (some 0) none = mk p := slice_frL [] p rfl
theorem slice_nilL : Txt.slice (mk []) (some (-1)) none = mk [] := by
  have h := Txt.slice_le (mk []) (some (-1)) none
  have h2 : (Txt.slice (mk []) (some (-1)) none).cps.toList = [] := by
    rw [← List.length_eq_zero_iff, Array.length_toList]
    exact Nat.le_zero.mp h
  rw [← mk_of (Txt.slice _ _ _), h2]
theorem item_atL (p : List Nat) (c : Nat) (r : List Nat) {i : Int} (hi : i = (p.length : Int)) : Txt.item (mk (p ++ c :: r)) i = mk [c] := item_at (by rw [mk_toList]) rfl hi
/-- the row's signs -/
noncomputable def rowB (c : Nat) : Bool := c == 97 || c == 61 || c == 32 || c == 9 || c == 233 || c == 45 || (48 ≤ c && c ≤ 57)
noncomputable abbrev isB (c : Nat) : Bool := c == 32 || c == 9
theorem rowB_lt {c : Nat} (h : rowB c = true) : c < 256 := by
  unfold rowB at h
  simp only [Bool.or_eq_true, Bool.and_eq_true, beq_iff_eq, decide_eq_true_eq] at h
  omega
theorem rowB_ok {c : Nat} (h : rowB c = true) : okc c = true := by
  unfold rowB at h
  unfold okc
  simp only [Bool.or_eq_true, Bool.and_eq_true, beq_iff_eq, decide_eq_true_eq] at h ⊢
  omega
theorem small_nb : ((List.range 256).all fun c => !(rowB c || c == 51 || c == 68 || c == 69 || c == 57 || c == 50 || c == 48) || !(Unicode.isLineBreak c)) = true := by decide +kernel
theorem small_ns : ((List.range 256).all fun c => !((rowB c && !(isB c)) || c == 51 || c == 68 || c == 69 || c == 57 || c == 50 || c == 48) || !(Unicode.isSpace c)) = true := by decide +kernel
theorem nb_of {c : Nat} (h : (rowB c || c == 51 || c == 68 || c == 69 || c == 57 || c == 50 || c == 48) = true) : Unicode.isLineBreak c = false := by
  have hlt : c < 256 := by
    simp only [Bool.or_eq_true, beq_iff_eq] at h
    rcases h with (((((h | h) | h) | h) | h) | h) | h
    · exact rowB_lt h
    all_goals omega
  have := List.all_eq_true.mp small_nb c (List.mem_range.mpr hlt)
  rw [h] at this
  simpa using this
theorem ns_of {c : Nat} (h : ((rowB c && !(isB c)) || c == 51 || c == 68 || c == 69 || c == 57 || c == 50 || c == 48) = true) : Unicode.isSpace c = false := by
  have hlt : c < 256 := by
    simp only [Bool.or_eq_true, Bool.and_eq_true, beq_iff_eq] at h
    rcases h with (((((h | h) | h) | h) | h) | h) | h
    · exact rowB_lt h.1
    all_goals omega
  have := List.all_eq_true.mp small_ns c (List.mem_range.mpr hlt)
  rw [h] at this
  simpa using this
noncomputable def tokC (c : Nat) : Nat × Bool := (c, c == 61 || c == 233)
theorem tk_tok (c : Nat) : tk (tokC c) = tr c := by
  unfold tk tokC tr hexq
  by_cases h1 : c = 61
  · subst h1; rfl
  · by_cases h2 : c = 233
    · subst h2; rfl
    · have : (c == 61 || c == 233) = false := by simp [h1, h2]
      rw [if_neg (by rw [this]; exact Bool.false_ne_true), if_neg h1, if_neg h2]
theorem tks_tok (r : List Nat) : (r.map tokC).flatMap tk = r.flatMap tr := by
  rw [List.flatMap_map]
  congr 1
  funext c
  exact tk_tok c
theorem sgn_tr (c : Nat) : sgn c = ((tr c).length : Int) := by
  unfold sgn tr
  by_cases h1 : c = 61
  · subst h1; rfl
  · by_cases h2 : c = 233
    · subst h2; rfl
    · rw [if_neg (by omega), if_neg h1, if_neg h2]; rfl
theorem sgn_sum (r : List Nat) : (r.map sgn).sum = ((r.flatMap tr).length : Int) := by
  induction r with
  | nil => rfl
  | cons c r ih => rw [List.map_cons, List.sum_cons, ih, sgn_tr, List.flatMap_cons, List.length_append]; omega
theorem tr_mem {c d : Nat} (hc : rowB c = true) (hd : d ∈ tr c) : (rowB d || d == 51 || d == 68 || d == 69 || d == 57 || d == 50 || d == 48) = true := by
  unfold tr at hd
  split at hd
  · simp only [List.mem_cons, List.not_mem_nil, or_false] at hd
    rcases hd with rfl | rfl | rfl <;> decide
  · split at hd
    · simp only [List.mem_cons, List.not_mem_nil, or_false] at hd
      rcases hd with rfl | rfl | rfl <;> decide
    · rw [List.mem_singleton.mp hd]; simp [hc]
theorem tr_nb {r : List Nat} (h : ∀ c ∈ r, rowB c = true) : NB (r.flatMap tr) := by
  intro d hd
  obtain ⟨c, hc, hd⟩ := List.mem_flatMap.mp hd
  exact nb_of (tr_mem (h c hc) hd)
theorem tr_last {c : Nat} (hc : rowB c = true) (hb : isB c = false) : ∃ p d, tr c = p ++ [d] ∧ Unicode.isSpace d = false ∧ isB d = false := by
  unfold tr
  split
  · exact ⟨[61, 51], 68, rfl, ns_of (by decide), by decide⟩
  · split
    · exact ⟨[61, 69], 57, rfl, ns_of (by decide), by decide⟩
    · exact ⟨[], c, rfl, ns_of (by rw [hc, hb]; rfl), hb⟩
theorem tr_blank {c : Nat} (hb : isB c = true) : tr c = [c] := by
  have : c = 32 ∨ c = 9 := by simpa [isB] using hb
  rcases this with rfl | rfl <;> rfl
/-- the test for a blank at the end -/
theorem blank_at (l : List Nat) (c : Nat) : (Builtin.Str.occurrences (Str.ofString " \t") (Txt.item (mk (l ++ [c])) (-1)) 0 (Str.ofString " \t").length 1).isEmpty = !(isB c) := by
  rw [item_lastL]
  have e := found_one (Str.ofString " \t") c
  rw [show (Str.ofString " \t").cps.toList = [32, 9] from by decide +kernel] at e
  have e2 : decide (c ∈ [32, 9]) = isB c := by
    by_cases h : isB c = true
    · rw [h]; have : c = 32 ∨ c = 9 := by simpa [isB] using h
      simpa using this
    · rw [Bool.not_eq_true] at h; rw [h]
      have : ¬ (c = 32 ∨ c = 9) := by intro h2; rcases h2 with rfl | rfl <;> cases h
      simpa using this
  rw [e2] at e
  rw [← e, Bool.not_not]
theorem needT_nil : needT (mk []) = 0 := by
  unfold needT
  rw [slice_nilL]
  rw [if_neg (by decide +kernel), mk_toList]
  rfl
theorem needT_snoc (l : List Nat) (c : Nat) : needT (mk (l ++ [c])) = (((l ++ [c]).flatMap tr).length : Int) + (if isB c = true then 2 else 0) := by
  unfold needT
  rw [slice_lastL l [c] (by simp) (i := -1) rfl, mk_toList, sgn_sum]
  congr 1
  have e : ([Str.ofString " ", Str.ofString "\t"].any fun x => x == mk [c]) = isB c := by
    have e1 : Str.ofString " " = mk [32] := by decide +kernel
    have e2 : Str.ofString "\t" = mk [9] := by decide +kernel
    have inj : ∀ a : Nat, (mk [a] == mk [c]) = (c == a) := by
      intro a
      by_cases h : c = a
      · subst h; simp
      · have h3 : mk [a] ≠ mk [c] := by
          intro e
          have := congrArg (fun z : Str => z.cps.toList) e
          simp only [mk_toList] at this
          injection this with this _
          exact h this.symm
        rw [beq_eq_false_iff_ne.mpr h3, beq_eq_false_iff_ne.mpr h]
    rw [e1, e2]
    show ((mk [32] == mk [c]) || ((mk [9] == mk [c]) || false)) = _
    rw [inj, inj, Bool.or_false]
  rw [e]
/-! a row's pieces -/
noncomputable abbrev ptext (p : List (Nat × Bool) × Bool) : List Nat := p.1.flatMap tk ++ tail p.2
structure PieceOk (p : List (Nat × Bool) × Bool) : Prop where
  tok : ∀ t ∈ p.1, TkOk t ∧ t.1 ≠ 61 ∨ t.2 = true ∧ (t.1 = 61 ∨ t.1 = 233 ∨ t.1 = 32 ∨ t.1 = 9)
  nb : NB (ptext p)
  fin : ptext p = [] ∨ ∃ l c, ptext p = l ++ [c] ∧ Unicode.isSpace c = false
theorem rstrip_same' {p : List (Nat × Bool) × Bool} (h : ptext p = [] ∨ ∃ l c, ptext p = l ++ [c] ∧ Unicode.isSpace c = false) : Txt.rstrip (mk (ptext p)) = mk (ptext p) := by
  have key : ∀ x : List Nat, (x = [] ∨ ∃ l c, x = l ++ [c] ∧ Unicode.isSpace c = false) → Txt.rstrip (mk x) = mk x := by
    intro x hx
    unfold Txt.rstrip Txt.stripBy
    rw [if_pos]
    unfold stripSame
    have e0 : stripLo Unicode.isSpace false (mk x) = 0 := rfl
    rw [e0]
    rw [Bool.and_eq_true, beq_iff_eq, beq_iff_eq]
    refine ⟨rfl, ?_⟩
    unfold stripHi
    rw [if_pos rfl, mk_toList, List.drop_zero]
    rcases hx with rfl | ⟨l, c, rfl, hc⟩
    · rfl
    · rw [List.reverse_append]
      show _ - ((c :: l.reverse).takeWhile Unicode.isSpace).length = _
      rw [List.takeWhile_cons, hc]
      simp
  exact key _ h
theorem tok_plain {c : Nat} (hc : rowB c = true) : TkOk (tokC c) ∧ (tokC c).1 ≠ 61 ∨ (tokC c).2 = true ∧ ((tokC c).1 = 61 ∨ (tokC c).1 = 233 ∨ (tokC c).1 = 32 ∨ (tokC c).1 = 9) := by
  unfold tokC TkOk
  by_cases h1 : c = 61
  · right; subst h1; exact ⟨rfl, .inl rfl⟩
  · by_cases h2 : c = 233
    · right; subst h2; exact ⟨rfl, .inr (.inl rfl)⟩
    · left
      have : (c == 61 || c == 233) = false := by simp [h1, h2]
      dsimp only
      rw [if_neg (by rw [this]; exact Bool.false_ne_true)]
      exact ⟨h1, h1⟩
theorem toks_plain {r : List Nat} (h : ∀ c ∈ r, rowB c = true) : ∀ t ∈ r.map tokC, TkOk t ∧ t.1 ≠ 61 ∨ t.2 = true ∧ (t.1 = 61 ∨ t.1 = 233 ∨ t.1 = 32 ∨ t.1 = 9) := by
  intro t ht
  obtain ⟨c, hc, rfl⟩ := List.mem_map.mp ht
  exact tok_plain (h c hc)
theorem ptext_plain (r : List Nat) (soft : Bool) : ptext (r.map tokC, soft) = r.flatMap tr ++ tail soft := by
  show (r.map tokC).flatMap tk ++ tail soft = _
  rw [tks_tok]
theorem piece_soft {r : List Nat} (h : ∀ c ∈ r, rowB c = true) : PieceOk (r.map tokC, true) := by
  refine ⟨toks_plain h, ?_, .inr ⟨r.flatMap tr, 61, ptext_plain r true, ns_of (by decide)⟩⟩
  rw [ptext_plain]
  intro c hc
  rcases List.mem_append.mp hc with hc | hc
  · exact tr_nb h c hc
  · have : c = 61 := by simpa [tail] using hc
    subst this
    exact nb_of (by decide)
theorem piece_hard {r : List Nat} {c : Nat} (h : ∀ d ∈ r ++ [c], rowB d = true) (hb : isB c = false) : PieceOk ((r ++ [c]).map tokC, false) := by
  have hc := h c (List.mem_append_right _ List.mem_cons_self)
  obtain ⟨p, d, e, hs, _⟩ := tr_last hc hb
  have et : ptext ((r ++ [c]).map tokC, false) = (r.flatMap tr ++ p) ++ [d] := by
    rw [ptext_plain, List.flatMap_append]
    show _ ++ (tr c ++ []) ++ [] = _
    rw [e]; simp
  refine ⟨toks_plain h, ?_, .inr ⟨_, d, et, hs⟩⟩
  rw [ptext_plain]
  intro z hz
  rcases List.mem_append.mp hz with hz | hz
  · exact tr_nb h z hz
  · cases hz
theorem piece_none : PieceOk ([], false) := ⟨(fun _ h => nomatch h), (fun _ h => nomatch h), .inl rfl⟩
theorem hexq_blank {c : Nat} (hb : isB c = true) : ∃ p d, hexq c = p ++ [d] ∧ Unicode.isSpace d = false ∧ NB (hexq c) ∧ (hexq c).length = 3 ∧ (quoteT (mk [c])).cps.toList = hexq c := by
  have : c = 32 ∨ c = 9 := by simpa [isB] using hb
  rcases this with rfl | rfl
  · refine ⟨[61, 50], 48, rfl, ns_of (by decide), ?_, rfl, by decide +kernel⟩
    intro d hd
    have : d = 61 ∨ d = 50 ∨ d = 48 := by simpa [hexq] using hd
    rcases this with rfl | rfl | rfl <;> exact nb_of (by decide)
  · refine ⟨[61, 48], 57, rfl, ns_of (by decide), ?_, rfl, by decide +kernel⟩
    intro d hd
    have : d = 61 ∨ d = 48 ∨ d = 57 := by simpa [hexq] using hd
    rcases this with rfl | rfl | rfl <;> exact nb_of (by decide)
theorem piece_quote {r : List Nat} {c : Nat} (h : ∀ d ∈ r, rowB d = true) (hb : isB c = true) : PieceOk (r.map tokC ++ [(c, true)], false) := by
  obtain ⟨p, d, e, hs, hn, _, _⟩ := hexq_blank hb
  have et : ptext (r.map tokC ++ [(c, true)], false) = r.flatMap tr ++ hexq c := by
    show (r.map tokC ++ [(c, true)]).flatMap tk ++ [] = _
    rw [List.flatMap_append, tks_tok]
    show r.flatMap tr ++ (hexq c ++ []) ++ [] = _
    simp
  refine ⟨?_, ?_, .inr ⟨r.flatMap tr ++ p, d, by rw [et, e]; simp, hs⟩⟩
  · intro t ht
    rcases List.mem_append.mp ht with ht | ht
    · exact toks_plain h t ht
    · rw [List.mem_singleton.mp ht]
      right
      have : c = 32 ∨ c = 9 := by simpa [isB] using hb
      exact ⟨rfl, .inr (.inr this)⟩
  · rw [et]
    intro z hz
    rcases List.mem_append.mp hz with hz | hz
    · exact tr_nb h z hz
    · exact hn z hz
end TextPL2
end Mine
namespace Mine
section TextPL3
set_option maxRecDepth 100000
set_option maxHeartbeats 1000000
open PySem.StrLaws
noncomputable def TR (r : List Nat) : List Nat := r.flatMap tr
theorem TR_snoc (r : List Nat) (c : Nat) : TR (r ++ [c]) = TR r ++ tr c := by unfold TR; simp
theorem ptext_TR (r : List Nat) (soft : Bool) : ptext (r.map tokC, soft) = TR r ++ tail soft := ptext_plain r soft
theorem tks_TR (r : List Nat) : (r.map tokC).flatMap tk = TR r := tks_tok r
theorem tr_shape (c : Nat) : (∃ x y, tr c = [61, x, y] ∧ x ≠ 61 ∧ y ≠ 61 ∧ sgn c = 3) ∨ (tr c = [c] ∧ c ≠ 61 ∧ sgn c = 1) := by
  by_cases h1 : c = 61
  · subst h1; exact .inl ⟨51, 68, rfl, by decide, by decide, rfl⟩
  · by_cases h2 : c = 233
    · subst h2; exact .inl ⟨69, 57, rfl, by decide, by decide, rfl⟩
    · right
      refine ⟨?_, h1, ?_⟩
      · unfold tr; rw [if_neg h1, if_neg h2]
      · unfold sgn; rw [if_neg (by omega)]
theorem TR_last {r : List Nat} (h : 1 ≤ (TR r).length) : ∃ q d, TR r = q ++ [d] ∧ d ≠ 61 := by
  rcases List.eq_nil_or_concat r with rfl | ⟨r0, c, rfl⟩
  · simp [TR] at h
  · rw [List.concat_eq_append, TR_snoc]
    rcases tr_shape c with ⟨x, y, e, _, hy, _⟩ | ⟨e, hc, _⟩
    · exact ⟨TR r0 ++ [61, x], y, by rw [e]; simp, hy⟩
    · exact ⟨TR r0, c, by rw [e], hc⟩
theorem TR_last2 {r : List Nat} (h : 2 ≤ (TR r).length) : ∃ q d1 d2, TR r = q ++ [d1, d2] ∧ d1 ≠ 61 ∧ d2 ≠ 61 := by
  rcases List.eq_nil_or_concat r with rfl | ⟨r0, c, rfl⟩
  · simp [TR] at h
  · rw [List.concat_eq_append, TR_snoc] at h ⊢
    rcases tr_shape c with ⟨x, y, e, hx, hy, _⟩ | ⟨e, hc, _⟩
    · exact ⟨TR r0 ++ [61], x, y, by rw [e]; simp, hx, hy⟩
    · rw [e, List.length_append] at h
      obtain ⟨q, d, e2, hd⟩ := TR_last (r := r0) (by simp only [List.length_cons, List.length_nil] at h; omega)
      exact ⟨q, d, c, by rw [e, e2]; simp, hd, hc⟩
theorem eqs (d : Nat) : (mk [d] == Str.ofString "=") = (d == 61) := by
  rw [eq_sign]
  show (mk [d] == mk [61]) = _
  by_cases h : d = 61
  · subst h; simp
  · have h3 : mk [d] ≠ mk [61] := by
      intro e
      have := congrArg (fun z : Str => z.cps.toList) e
      simp only [mk_toList] at this
      injection this with this _
      exact h this
    rw [beq_eq_false_iff_ne.mpr h3, beq_eq_false_iff_ne.mpr h]
noncomputable abbrev JZ (s : List Nat) (Z : List Str) : List Nat := Z.flatMap fun z => z.cps.toList ++ s
noncomputable abbrev JP (s : List Nat) (P : List (List (Nat × Bool) × Bool)) : List Nat := P.flatMap fun p => ptext p ++ s
structure RowP (k : Int) (s r : List Nat) (P : List (List (Nat × Bool) × Bool)) : Prop where
  segs : JZ s (segsT k (mk s) (mk (TR r))) = JP s P
  lens : P.map (fun p => ((ptext p).length : Int)) = partsT (mk r) (needT (mk r)) (k + 1)
  dec : P.flatMap (fun p => decOf p.1 p.2) = r ++ [10]
  each : ∀ p ∈ P, PieceOk p
  line : LineOk k (mk (TR r))
theorem dec_hard (r : List Nat) : decOf (r.map tokC) false = r ++ [10] := by
  unfold decOf
  rw [List.map_map]
  have : ((fun (x : Nat × Bool) => x.1) ∘ tokC) = id := rfl
  rw [this, List.map_id]; rfl
theorem dec_soft (r : List Nat) : decOf (r.map tokC) true = r := by
  unfold decOf
  rw [List.map_map]
  have : ((fun (x : Nat × Bool) => x.1) ∘ tokC) = id := rfl
  rw [this, List.map_id]; simp
theorem mkl (l : List Nat) : ((mk l).length : Int) = (l.length : Int) := by rw [mk_len]
theorem app_mk (a b : List Nat) : mk a ++ mk b = mk (a ++ b) := by
  rw [← mk_of (mk a ++ mk b), app_cps, mk_toList, mk_toList]
/-- the empty row -/
theorem rowp_nil {k : Int} {s : List Nat} (hk : 4 ≤ k) : RowP k s [] [([], false)] := by
  have e0 : ((mk (TR [])).length : Int) = 0 := mkl _
  refine ⟨?_, ?_, rfl, fun p hp => by rw [List.mem_singleton.mp hp]; exact piece_none, .inl e0⟩
  · unfold segsT
    rw [if_pos e0, slice_wholeL]
    rfl
  · rw [needT_nil]
    unfold partsT
    rw [if_pos (by omega)]
    rfl
/-- a row that ends in a blank -/
theorem rowp_blank {k : Int} {s r : List Nat} {c : Nat} (hk : 4 ≤ k) (hr : ∀ d ∈ r ++ [c], rowB d = true) (hb : isB c = true) (hn : needT (mk (r ++ [c])) ≤ k + 1) : ∃ P, RowP k s (r ++ [c]) P := by
  have hr0 : ∀ d ∈ r, rowB d = true := fun d hd => hr d (List.mem_append_left _ hd)
  have eT : TR (r ++ [c]) = TR r ++ [c] := by rw [TR_snoc, tr_blank hb]
  have hnd := needT_snoc r c
  rw [if_pos hb] at hnd
  have el : ((TR (r ++ [c])).length : Int) = (TR r).length + 1 := by rw [eT]; simp
  have hnd' : needT (mk (r ++ [c])) = (TR r).length + 3 := by rw [hnd]; show ((TR (r ++ [c])).length : Int) + 2 = _; omega
  have hlen : ((mk (TR r ++ [c])).length : Int) = (TR r).length + 1 := by rw [mkl]; simp
  have hocc := blank_at (TR r) c
  rw [hb] at hocc
  have hocc' : (Builtin.Str.occurrences (Str.ofString " \t") (Txt.item (mk (TR r ++ [c])) (-1)) 0 (Str.ofString " \t").length 1).isEmpty = false := hocc
  have hocr : (Builtin.Str.occurrences (Str.ofString " \t") (Txt.item (mk (r ++ [c])) (-1)) 0 (Str.ofString " \t").length 1).isEmpty = false := by rw [blank_at, hb]; rfl
  have hline : LineOk k (mk (TR (r ++ [c]))) := by
    rw [eT]
    exact .inr (.inr (.inl ⟨by omega, hocc', by omega⟩))
  obtain ⟨p, d, eh, hs, hnb, hl3, hq⟩ := hexq_blank hb
  by_cases hfit : needT (mk (r ++ [c])) ≤ k
  · refine ⟨[(r.map tokC ++ [(c, true)], false)], ?_, ?_, ?_, fun p hp => by rw [List.mem_singleton.mp hp]; exact piece_quote hr0 hb, hline⟩
    · rw [eT]
      unfold segsT
      rw [if_neg (by omega), if_pos (by omega), if_neg (by rw [hocc']; exact Bool.false_ne_true), if_pos (by omega), slice_initL, item_lastL]
      show ((mk (TR r) ++ quoteT (mk [c])).cps.toList ++ s) ++ [] = (((r.map tokC ++ [(c, true)]).flatMap tk ++ []) ++ s) ++ []
      rw [app_cps, mk_toList, hq, List.flatMap_append, tks_TR]
      show _ = ((TR r ++ (hexq c ++ []) ++ []) ++ s) ++ []
      simp
    · unfold partsT
      rw [if_pos (by omega), hnd']
      show [((((r.map tokC ++ [(c, true)]).flatMap tk ++ []).length : Nat) : Int)] = _
      rw [List.flatMap_append, tks_TR]
      show [(((TR r ++ (hexq c ++ []) ++ []).length : Nat) : Int)] = _
      simp only [List.append_nil, List.length_append, hl3]
      congr 1
    · show (((r.map tokC ++ [(c, true)]).map (·.1)) ++ [10]) ++ [] = _
      rw [List.map_append, List.map_map]
      have : ((fun (x : Nat × Bool) => x.1) ∘ tokC) = id := rfl
      rw [this, List.map_id]; simp
  · refine ⟨[((r ++ [c]).map tokC, true), ([], false)], ?_, ?_, ?_, ?_, hline⟩
    · rw [eT]
      unfold segsT
      rw [if_neg (by omega), if_pos (by omega), if_neg (by rw [hocc']; exact Bool.false_ne_true), if_neg (by omega), slice_initL, item_lastL]
      show ((mk (TR r) ++ (mk [c] ++ (Str.ofString "=" ++ mk s))).cps.toList ++ s) ++ [] = (ptext ((r ++ [c]).map tokC, true) ++ s) ++ ((([] ++ []) ++ s) ++ [])
      rw [app_cps, app_cps, app_cps, mk_toList, mk_toList, mk_toList, eq_sign, ptext_TR, TR_snoc, tr_blank hb]
      simp [tail]
    · unfold partsT
      rw [if_neg (by omega), if_pos hocr]
      show [(((ptext ((r ++ [c]).map tokC, true)).length : Nat) : Int), 0] = _
      rw [ptext_TR]
      have e2 : ((TR (r ++ [c]) ++ tail true).length : Int) = (TR r).length + 2 := by rw [eT]; simp [tail]
      rw [e2, hnd']
      congr 1
      omega
    · show decOf ((r ++ [c]).map tokC) true ++ ([10] ++ []) = _
      rw [dec_soft]; simp
    · intro p hp
      rcases List.mem_cons.mp hp with rfl | hp
      · exact piece_soft hr
      · rw [List.mem_singleton.mp hp]; exact piece_none
theorem one_sum (c : Nat) : (List.map sgn (mk [c]).cps.toList).sum = sgn c := by rw [mk_toList]; simp
theorem two_sum (b c : Nat) : (List.map sgn (mk [b, c]).cps.toList).sum = sgn b + sgn c := by rw [mk_toList]; simp
/-- a row that does not -/
theorem rowp_hard {k : Int} {s r : List Nat} {c : Nat} (hk : 4 ≤ k) (hr : ∀ d ∈ r ++ [c], rowB d = true) (hb : isB c = false) (hn : needT (mk (r ++ [c])) ≤ k + 1) : ∃ P, RowP k s (r ++ [c]) P := by
  have hr0 : ∀ d ∈ r, rowB d = true := fun d hd => hr d (List.mem_append_left _ hd)
  have hc := hr c (List.mem_append_right _ List.mem_cons_self)
  obtain ⟨p, d, et, hsd, hbd⟩ := tr_last hc hb
  have eT : TR (r ++ [c]) = (TR r ++ p) ++ [d] := by rw [TR_snoc, et]; simp
  have hnd : needT (mk (r ++ [c])) = ((TR (r ++ [c])).length : Int) := by
    have := needT_snoc r c
    rw [hb] at this
    rw [this]; show ((TR (r ++ [c])).length : Int) + 0 = _; omega
  have hlen : ((mk (TR (r ++ [c]))).length : Int) = (TR (r ++ [c])).length := mkl _
  have hpos : 1 ≤ (TR (r ++ [c])).length := by rw [eT, List.length_append]; exact Nat.le_add_left _ _
  have hocc : (Builtin.Str.occurrences (Str.ofString " \t") (Txt.item (mk (TR (r ++ [c]))) (-1)) 0 (Str.ofString " \t").length 1).isEmpty = true := by rw [eT, blank_at, hbd]; rfl
  have hocr : (Builtin.Str.occurrences (Str.ofString " \t") (Txt.item (mk (r ++ [c])) (-1)) 0 (Str.ofString " \t").length 1).isEmpty = true := by rw [blank_at, hb]; rfl
  by_cases hfit : needT (mk (r ++ [c])) ≤ k
  · refine ⟨[((r ++ [c]).map tokC, false)], ?_, ?_, ?_, fun p hp => by rw [List.mem_singleton.mp hp]; exact piece_hard hr hb, .inr (.inl ⟨by omega, hocc, by omega⟩)⟩
    · unfold segsT
      rw [if_neg (by omega), if_pos (by omega), if_pos hocc, slice_wholeL]
      show ((mk (TR (r ++ [c]))).cps.toList ++ s) ++ [] = (ptext ((r ++ [c]).map tokC, false) ++ s) ++ []
      rw [mk_toList, ptext_TR]; simp [tail]
    · unfold partsT
      rw [if_pos (by omega), hnd]
      show [(((ptext ((r ++ [c]).map tokC, false)).length : Nat) : Int)] = _
      rw [ptext_TR]; simp [tail]
    · show decOf ((r ++ [c]).map tokC) false ++ [] = _
      rw [dec_hard]; simp
  · have hT : ((TR (r ++ [c])).length : Int) = k + 1 := by omega
    have hline : LineOk k (mk (TR (r ++ [c]))) := .inr (.inr (.inr ⟨by omega, hocc⟩))
    have hnn : ¬ needT (mk (r ++ [c])) < k + 1 := by omega
    have hparts : partsT (mk (r ++ [c])) (needT (mk (r ++ [c]))) (k + 1) = if sgn c = 1 then [k + 1 + 1 - (List.map sgn (Txt.slice (mk (r ++ [c])) (some (-2)) none).cps.toList).sum, (List.map sgn (Txt.slice (mk (r ++ [c])) (some (-2)) none).cps.toList).sum] else [k + 1 + 1 - sgn c, sgn c] := by
      unfold partsT
      rw [if_neg hnn, if_neg (by rw [hocr]; decide), item_lastL, one_sum, hnd, hT]
    rcases tr_shape c with ⟨x, y, e, hx, hy, hs3⟩ | ⟨e, hc1, hs1⟩
    · -- the last sign is three wide
      have eR : TR (r ++ [c]) = TR r ++ [61, x, y] := by rw [TR_snoc, e]
      have hl : ((TR r).length : Int) = k - 2 := by rw [eR] at hT; simp at hT; omega
      obtain ⟨q, z, eq, hz⟩ := TR_last (r := r) (by omega)
      have hql : (q.length : Int) = k - 3 := by rw [eq] at hl; simp at hl; omega
      refine ⟨[(r.map tokC, true), ([tokC c], false)], ?_, ?_, ?_, ?_, hline⟩
      · have i1 : Txt.item (mk (TR (r ++ [c]))) (k - 3) = mk [z] := by
          rw [eR, eq, List.append_assoc]; exact item_atL q z _ hql.symm
        have i2 : Txt.item (mk (TR (r ++ [c]))) (k - 2) = mk [61] := by
          rw [eR]; exact item_atL (TR r) 61 _ hl.symm
        have s1 : Txt.slice (mk (TR (r ++ [c]))) (some 0) (some (k - 1)) = mk (TR r ++ [61]) := by
          rw [eR, show TR r ++ [61, x, y] = (TR r ++ [61]) ++ [x, y] from by simp]
          exact slice_toL _ _ (by simp; omega)
        have s2 : Txt.slice (mk (TR (r ++ [c]))) (some (k - 2)) none = mk [61, x, y] := by
          rw [eR]; exact slice_frL _ _ hl.symm
        unfold segsT
        rw [if_neg (by omega), if_neg (by omega), i1, eqs, if_neg (by simpa using hz), i2, eqs, if_pos (by decide), s1, s2]
        show ((mk (TR r ++ [61])).cps.toList ++ s) ++ (((mk [61, x, y]).cps.toList ++ s) ++ []) = (ptext (r.map tokC, true) ++ s) ++ ((ptext ([c].map tokC, false) ++ s) ++ [])
        rw [mk_toList, mk_toList, ptext_TR, ptext_TR]
        show _ = (TR r ++ [61] ++ s) ++ (((tr c ++ []) ++ [] ++ s) ++ [])
        rw [e]; simp
      · rw [hparts, if_neg (by rw [hs3]; decide), hs3]
        show [(((ptext (r.map tokC, true)).length : Nat) : Int), (((ptext ([c].map tokC, false)).length : Nat) : Int)] = _
        rw [ptext_TR, ptext_TR]
        have e1 : ((TR r ++ tail true).length : Int) = k + 1 + 1 - 3 := by rw [List.length_append]; show (((TR r).length + 1 : Nat) : Int) = _; omega
        have e2 : ((TR [c] ++ tail false).length : Int) = 3 := by show (((tr c ++ [] ++ []).length : Nat) : Int) = 3; rw [e]; rfl
        rw [e1, e2]
      · show decOf (r.map tokC) true ++ (decOf ([c].map tokC) false ++ []) = _
        rw [dec_soft, dec_hard]; simp
      · intro p hp
        rcases List.mem_cons.mp hp with rfl | hp
        · exact piece_soft hr0
        · rw [List.mem_singleton.mp hp]
          exact piece_hard (r := []) (c := c) (fun d hd => by rw [List.mem_singleton.mp hd]; exact hc) hb
    · -- the last sign is one wide
      have eR : TR (r ++ [c]) = TR r ++ [c] := by rw [TR_snoc, e]
      have hl : ((TR r).length : Int) = k := by rw [eR] at hT; simp at hT; omega
      rcases List.eq_nil_or_concat r with rfl | ⟨r1, b, rfl⟩
      · simp [TR] at hl; omega
      rw [List.concat_eq_append] at *
      have hr1 : ∀ d ∈ r1, rowB d = true := fun d hd => hr0 d (List.mem_append_left _ hd)
      have hbr := hr0 b (List.mem_append_right _ List.mem_cons_self)
      have hsl : Txt.slice (mk (r1 ++ [b] ++ [c])) (some (-2)) none = mk [b, c] := by
        rw [List.append_assoc]; exact slice_lastL r1 [b, c] (by simp) rfl
      rw [if_pos hs1, hsl, two_sum, hs1] at hparts
      have hdec : [(r1.map tokC, true), ([b, c].map tokC, false)].flatMap (fun p => decOf p.1 p.2) = r1 ++ [b] ++ [c] ++ [10] := by
        show decOf (r1.map tokC) true ++ (decOf ([b, c].map tokC) false ++ []) = _
        rw [dec_soft, dec_hard]; simp
      have heach : ∀ p ∈ [(r1.map tokC, true), ([b, c].map tokC, false)], PieceOk p := by
        intro p hp
        rcases List.mem_cons.mp hp with rfl | hp
        · exact piece_soft hr1
        · rw [List.mem_singleton.mp hp]
          exact piece_hard (r := [b]) (c := c) (fun d hd => by
            rcases List.mem_cons.mp hd with rfl | hd
            · exact hbr
            · rw [List.mem_singleton.mp hd]; exact hc) hb
      have hp2 : ptext ([b, c].map tokC, false) = tr b ++ [c] := by
        rw [ptext_TR]
        show (tr b ++ (tr c ++ [])) ++ [] = _
        rw [e]; simp
      have hp1 : ptext (r1.map tokC, true) = TR r1 ++ [61] := ptext_TR r1 true
      rcases tr_shape b with ⟨x, y, eb, hx, hy, hsb⟩ | ⟨eb, hb1, hsb⟩
      · have eR2 : TR (r1 ++ [b] ++ [c]) = TR r1 ++ [61, x, y, c] := by rw [eR, TR_snoc, eb]; simp
        have hl1 : ((TR r1).length : Int) = k - 3 := by rw [TR_snoc, eb] at hl; simp at hl; omega
        refine ⟨[(r1.map tokC, true), ([b, c].map tokC, false)], ?_, ?_, hdec, heach, hline⟩
        · have i1 : Txt.item (mk (TR (r1 ++ [b] ++ [c]))) (k - 3) = mk [61] := by rw [eR2]; exact item_atL (TR r1) 61 _ hl1.symm
          have s1 : Txt.slice (mk (TR (r1 ++ [b] ++ [c]))) (some 0) (some (k - 2)) = mk (TR r1 ++ [61]) := by
            rw [eR2, show TR r1 ++ [61, x, y, c] = (TR r1 ++ [61]) ++ [x, y, c] from by simp]
            exact slice_toL _ _ (by simp; omega)
          have s2 : Txt.slice (mk (TR (r1 ++ [b] ++ [c]))) (some (k - 3)) none = mk [61, x, y, c] := by rw [eR2]; exact slice_frL _ _ hl1.symm
          unfold segsT
          rw [if_neg (by omega), if_neg (by omega), i1, eqs, if_pos (by decide), s1, s2]
          show ((mk (TR r1 ++ [61])).cps.toList ++ s) ++ (((mk [61, x, y, c]).cps.toList ++ s) ++ []) = (ptext (r1.map tokC, true) ++ s) ++ ((ptext ([b, c].map tokC, false) ++ s) ++ [])
          rw [mk_toList, mk_toList, hp1, hp2, eb]; simp
        · rw [hparts, hsb]
          show [(((ptext (r1.map tokC, true)).length : Nat) : Int), (((ptext ([b, c].map tokC, false)).length : Nat) : Int)] = _
          rw [hp1, hp2, eb]
          have e1 : ((TR r1 ++ [61]).length : Int) = k + 1 + 1 - (3 + 1) := by simp; omega
          rw [e1]; rfl
      · have eR2 : TR (r1 ++ [b] ++ [c]) = TR r1 ++ [b, c] := by rw [eR, TR_snoc, eb]; simp
        have hl1 : ((TR r1).length : Int) = k - 1 := by rw [TR_snoc, eb] at hl; simp at hl; omega
        obtain ⟨q, d1, d2, eq, hd1, hd2⟩ := TR_last2 (r := r1) (by omega)
        have hql : (q.length : Int) = k - 3 := by rw [eq] at hl1; simp at hl1; omega
        refine ⟨[(r1.map tokC, true), ([b, c].map tokC, false)], ?_, ?_, hdec, heach, hline⟩
        · have i1 : Txt.item (mk (TR (r1 ++ [b] ++ [c]))) (k - 3) = mk [d1] := by
            rw [eR2, eq, List.append_assoc]; exact item_atL q d1 _ hql.symm
          have i2 : Txt.item (mk (TR (r1 ++ [b] ++ [c]))) (k - 2) = mk [d2] := by
            rw [eR2, eq, show q ++ [d1, d2] ++ [b, c] = (q ++ [d1]) ++ d2 :: [b, c] from by simp]
            exact item_atL (q ++ [d1]) d2 _ (by simp; omega)
          have s1 : Txt.slice (mk (TR (r1 ++ [b] ++ [c]))) (some 0) (some (k - 1)) = mk (TR r1) := by rw [eR2]; exact slice_toL _ _ hl1.symm
          have s2 : Txt.slice (mk (TR (r1 ++ [b] ++ [c]))) (some (k - 1)) none = mk [b, c] := by rw [eR2]; exact slice_frL _ _ hl1.symm
          unfold segsT
          rw [if_neg (by omega), if_neg (by omega), i1, eqs, if_neg (by simpa using hd1), i2, eqs, if_neg (by simpa using hd2), s1, s2]
          show ((mk (TR r1) ++ Str.ofString "=").cps.toList ++ s) ++ (((mk [b, c]).cps.toList ++ s) ++ []) = (ptext (r1.map tokC, true) ++ s) ++ ((ptext ([b, c].map tokC, false) ++ s) ++ [])
          rw [app_cps, eq_sign, mk_toList, mk_toList, hp1, hp2, eb]; simp
        · rw [hparts, hsb]
          show [(((ptext (r1.map tokC, true)).length : Nat) : Int), (((ptext ([b, c].map tokC, false)).length : Nat) : Int)] = _
          rw [hp1, hp2, eb]
          have e1 : ((TR r1 ++ [61]).length : Int) = k + 1 + 1 - (1 + 1) := by simp; omega
          rw [e1]; rfl
theorem rowp_any {k : Int} {s r : List Nat} (hk : 4 ≤ k) (hr : ∀ d ∈ r, rowB d = true) (hn : needT (mk r) ≤ k + 1) : ∃ P, RowP k s r P := by
  rcases List.eq_nil_or_concat r with rfl | ⟨r0, c, rfl⟩
  · exact ⟨_, rowp_nil hk⟩
  · rw [List.concat_eq_append] at *
    cases hb : isB c with
    | true => exact rowp_blank hk hr hb hn
    | false => exact rowp_hard hk hr hb hn
end TextPL3
end Mine
namespace Mine
section TextPL4
set_option maxRecDepth 100000
set_option maxHeartbeats 1000000
open PySem.StrLaws
theorem whole_tr (l : List Nat) : ∀ I : List (List Nat), (whole [10] I l).flatMap tr = whole [10] (I.map TR) (TR l)
  | [] => rfl
  | r :: I => by
    have ih := whole_tr l I
    have e1 : whole [10] (r :: I) l = r ++ ([10] ++ whole [10] I l) := by simp [whole]
    have e2 : whole [10] ((r :: I).map TR) (TR l) = TR r ++ ([10] ++ whole [10] (I.map TR) (TR l)) := by simp [whole]
    rw [e1, e2, List.flatMap_append, List.flatMap_append, ih]
    rfl
theorem whole_flat (s : List Nat) (I : List (List Nat)) (l : List Nat) : whole s I l ++ s = (I ++ [l]).flatMap (· ++ s) := by simp [whole]
theorem join_JZ {s : List Nat} {Z : List Str} (hZ : Z ≠ []) : (Txt.join (mk s) Z).cps.toList ++ s = JZ s Z := by
  rcases List.eq_nil_or_concat Z with rfl | ⟨A, z, rfl⟩
  · exact absurd rfl hZ
  · rw [List.concat_eq_append]
    have e : A ++ [z] = ((A.map fun y => y.cps.toList) ++ [z.cps.toList]).map mk := by
      rw [List.map_append, List.map_map]
      have : (mk ∘ fun y : Str => y.cps.toList) = id := funext fun y => mk_of y
      rw [this, List.map_id]
      show _ = A ++ [mk z.cps.toList]
      rw [mk_of]
    have h := join_of s (A.map fun y => y.cps.toList) z.cps.toList
    rw [← e] at h
    rw [h, mk_toList, whole_flat]
    show _ = (A ++ [z]).flatMap fun z => z.cps.toList ++ s
    simp [List.flatMap_append, List.flatMap_map]
theorem toksL_nil : toksL [] = ([], false) := by unfold toksL; rfl
theorem toksL_soft : toksL [61] = ([], true) := by unfold toksL; rfl
theorem toksL_raw {c : Nat} (r : List Nat) (h : c ≠ 61) : toksL (c :: r) = ((c, false) :: (toksL r).1, (toksL r).2) := by
  rw [toksL]
  all_goals (intros; exact absurd (by assumption) h)
theorem toksL_hex {c : Nat} (r : List Nat) (h : c = 61 ∨ c = 233 ∨ c = 32 ∨ c = 9) : toksL (hexq c ++ r) = ((c, true) :: (toksL r).1, (toksL r).2) := by
  rcases h with rfl | rfl | rfl | rfl
  · show toksL (61 :: 51 :: 68 :: r) = _; rw [toksL]
  · show toksL (61 :: 69 :: 57 :: r) = _; rw [toksL]
  · show toksL (61 :: 50 :: 48 :: r) = _; rw [toksL]
  · show toksL (61 :: 48 :: 57 :: r) = _; rw [toksL]
theorem tok_ok {t : Nat × Bool} (h : TkOk t ∧ t.1 ≠ 61 ∨ t.2 = true ∧ (t.1 = 61 ∨ t.1 = 233 ∨ t.1 = 32 ∨ t.1 = 9)) : TkOk t := by
  rcases h with h | ⟨h1, h2⟩
  · exact h.1
  · unfold TkOk; rw [if_pos h1]; exact h2
theorem toksL_piece (soft : Bool) : ∀ l : List (Nat × Bool), (∀ t ∈ l, TkOk t) → toksL (l.flatMap tk ++ tail soft) = (l, soft)
  | [], _ => by
    cases soft
    · exact toksL_nil
    · exact toksL_soft
  | (c, q) :: l, h => by
    have ih := toksL_piece soft l fun t ht => h t (List.mem_cons_of_mem _ ht)
    have hc := h (c, q) List.mem_cons_self
    rw [List.flatMap_cons, List.append_assoc]
    cases q with
    | true =>
      have hc' : c = 61 ∨ c = 233 ∨ c = 32 ∨ c = 9 := by unfold TkOk at hc; simpa using hc
      show toksL (hexq c ++ _) = _
      rw [toksL_hex _ hc', ih]
    | false =>
      have hc' : c ≠ 61 := by unfold TkOk at hc; simpa using hc
      show toksL (c :: (l.flatMap tk ++ tail soft)) = _
      rw [toksL_raw _ hc', ih]
theorem toks_piece {p : List (Nat × Bool) × Bool} (h : PieceOk p) : toksOf (mk (ptext p)) = p := by
  unfold toksOf
  rw [mk_toList]
  exact toksL_piece p.2 p.1 fun t ht => tok_ok (h.tok t ht)
theorem piece_nil {p : List (Nat × Bool) × Bool} (h : ptext p = []) : p = ([], false) := by
  obtain ⟨l, q⟩ := p
  have h1 := List.append_eq_nil_iff.mp h
  have e2 : q = false := by
    cases q with
    | false => rfl
    | true => exact absurd h1.2 (by simp [tail])
  have e1 : l = [] := by
    by_cases hl : l = []
    · exact hl
    · have := tks_pos hl
      rw [h1.1] at this
      simp at this
  rw [e1, e2]
theorem parts_sum (x : Str) (k n : Int) : (partsT x k n).sum ≤ k + 1 := by
  unfold partsT
  repeat' split
  all_goals (simp only [List.sum_cons, List.sum_nil]; omega)
theorem parts_ne (x : Str) (k n : Int) : partsT x k n ≠ [] := by
  unfold partsT
  repeat' split
  all_goals simp
theorem end_at (q : List Nat) (c : Nat) : (Builtin.Str.occurrences (Str.ofString "\x0d\n") (Txt.item (mk (q ++ [c])) (-1)) 0 (Str.ofString "\x0d\n").length 1).isEmpty = !(c == 13 || c == 10) := by
  rw [item_lastL]
  have e := found_one (Str.ofString "\x0d\n") c
  rw [show (Str.ofString "\x0d\n").cps.toList = [13, 10] from by decide +kernel] at e
  have e2 : decide (c ∈ [13, 10]) = (c == 13 || c == 10) := by
    by_cases h : (c == 13 || c == 10) = true
    · rw [h]; have : c = 13 ∨ c = 10 := by simpa using h
      simpa using this
    · rw [Bool.not_eq_true] at h; rw [h]
      have : ¬ (c = 13 ∨ c = 10) := by intro h2; rcases h2 with rfl | rfl <;> cases h
      simpa using this
  rw [e2] at e
  rw [← e, Bool.not_not]
theorem nb_end {c : Nat} (h : Unicode.isLineBreak c = false) : (c == 13 || c == 10) = false := by
  by_cases h2 : (c == 13 || c == 10) = true
  · have : c = 13 ∨ c = 10 := by simpa using h2
    rcases this with rfl | rfl <;> (revert h; decide)
  · rwa [Bool.not_eq_true] at h2
theorem sep_last {s : List Nat} (hs : SepOk s) : ∃ q c, s = q ++ [c] ∧ (c == 13 || c == 10) = true := by
  cases hs
  · exact ⟨[], 10, rfl, rfl⟩
  · exact ⟨[13], 10, rfl, rfl⟩
  · exact ⟨[], 13, rfl, rfl⟩
theorem whole_nil_last {s : List Nat} (hs : SepOk s) {I : List (List Nat)} (hI : I ≠ []) : ∃ q c, whole s I [] = q ++ [c] ∧ (c == 13 || c == 10) = true := by
  rcases List.eq_nil_or_concat I with rfl | ⟨A, r, rfl⟩
  · exact absurd rfl hI
  · obtain ⟨q, c, e, h⟩ := sep_last hs
    exact ⟨A.flatMap (· ++ s) ++ r ++ q, c, by rw [List.concat_eq_append]; simp only [whole, List.flatMap_append, List.append_nil]; show _ ++ ((r ++ s) ++ []) = _; rw [e]; simp, h⟩

theorem nl_mk : Str.ofString "\n" = mk [10] := by decide +kernel
theorem ends_nl (q : List Nat) : Txt.endswith (mk (q ++ [10])) (Str.ofString "\n") = true := by
  unfold Txt.endswith
  rw [nl_mk, mk_len, mk_len]
  have h := sub_yes (s := [10]) (x := mk (q ++ [10])) (pre := q) (rest := []) (mk_toList _) (by simp)
  have e : (q ++ [10]).length - [10].length = q.length := by simp
  rw [e, h]
  simp
theorem mem_sum_le {l : List Int} (h : ∀ x ∈ l, 0 ≤ x) : 0 ≤ l.sum := by
  induction l with
  | nil => simp
  | cons a l ih =>
    rw [List.sum_cons]
    have := h a List.mem_cons_self
    have := ih fun x hx => h x (List.mem_cons_of_mem _ hx)
    omega
theorem flat_sum_le {R : List (List Nat)} {f : List Nat → List (List (Nat × Bool) × Bool)} {b : Nat} (h : ∀ r ∈ R, (((f r).map fun p => ((ptext p).length : Int)).sum ≤ b) ∧ (f r).length ≤ 2) : (((R.flatMap f).map fun p => ((ptext p).length : Int)).sum ≤ R.length * b) ∧ (R.flatMap f).length ≤ 2 * R.length := by
  induction R with
  | nil => simp
  | cons r R ih =>
    obtain ⟨h1, h2⟩ := h r List.mem_cons_self
    obtain ⟨h3, h4⟩ := ih fun r hr => h r (List.mem_cons_of_mem _ hr)
    rw [List.flatMap_cons, List.map_append, List.sum_append, List.length_append, List.length_cons]
    constructor
    · have e : (((R.length + 1 : Nat) : Int)) * (b : Int) = (R.length : Int) * b + b := by rw [Int.natCast_add, Int.add_mul]; simp
      rw [e]; omega
    · omega
theorem whole_len {s : List Nat} (hs : SepOk s) : ∀ (P : List (List (Nat × Bool) × Bool)), ((P.flatMap fun p => ptext p ++ s).length : Int) ≤ (P.map fun p => ((ptext p).length : Int)).sum + 2 * P.length
  | [] => by simp
  | p :: P => by
    have ih := whole_len hs P
    have hl : s.length ≤ 2 := by cases hs <;> decide
    rw [List.flatMap_cons, List.length_append, List.map_cons, List.sum_cons, List.length_cons, List.length_append]
    omega
structure RowIn (k : Int) (r : List Nat) : Prop where
  chars : ∀ c ∈ r, rowB c = true
  need : needT (mk r) ≤ k + 1
  short : r.length ≤ 13
  wide : (TR r).length ≤ 40
theorem need_le {r : List Nat} (h : (TR r).length ≤ 40) : needT (mk r) ≤ 42 := by
  rcases List.eq_nil_or_concat r with rfl | ⟨q, c, rfl⟩
  · rw [needT_nil]; omega
  · rw [List.concat_eq_append] at *
    have h2 : (((q ++ [c]).flatMap tr).length : Int) ≤ 40 := by exact_mod_cast h
    rw [needT_snoc]
    split <;> omega
theorem whole_short {I : List (List Nat)} {l : List Nat} (h : ∀ r ∈ I ++ [l], r.length ≤ 13) : (whole [10] I l).length ≤ 14 * I.length + 13 := by
  induction I with
  | nil => exact h l (by simp)
  | cons r I ih =>
    have e1 : whole [10] (r :: I) l = r ++ ([10] ++ whole [10] I l) := by simp [whole]
    have h1 := h r (by simp)
    have h2 := ih fun q hq => h q (by simp at hq ⊢; exact .inr hq)
    rw [e1, List.length_append, List.length_append, List.length_cons]
    simp only [List.length_cons, List.length_nil]
    omega
theorem segs_nil {k : Int} {e : Str} : segsT k e (mk []) = [mk []] := by
  unfold segsT
  rw [if_pos (by rw [mkl]; rfl), slice_wholeL]
theorem TR_nil_iff {l : List Nat} : TR l = [] ↔ l = [] := by
  constructor
  · intro h
    have := trs_ge l
    have e : (l.flatMap tr).length = 0 := by rw [show l.flatMap tr = TR l from rfl, h]; rfl
    exact List.length_eq_zero_iff.mp (by omega)
  · rintro rfl; rfl
theorem letter_ok {k : Int} {s : List Nat} {I : List (List Nat)} {l : List Nat} (hs : SepOk s) (hk : 4 ≤ k ∧ k ≤ 1000) (hI : I ≠ []) (hrow : ∀ r ∈ I ++ [l], RowIn k r) (hcount : I.length ≤ 9) :
    LetterOk (mk (whole [10] I l)) (mk s) k ((I ++ [l]).flatMap fun r => partsT (mk r) (needT (mk r)) (k + 1)) := by
  have hex : ∀ r ∈ I ++ [l], ∃ P, RowP k s r P := fun r hr => rowp_any hk.1 (hrow r hr).chars (hrow r hr).need
  obtain ⟨f, hf⟩ : ∃ f : List Nat → List (List (Nat × Bool) × Bool), ∀ r ∈ I ++ [l], RowP k s r (f r) := by
    classical
    refine ⟨fun r => if h : ∃ P, RowP k s r P then h.choose else [], fun r hr => ?_⟩
    dsimp only
    rw [dif_pos (hex r hr)]
    exact (hex r hr).choose_spec
  have hlI : ∀ r ∈ I, r ∈ I ++ [l] := fun r hr => List.mem_append_left _ hr
  have hll : l ∈ I ++ [l] := List.mem_append_right _ List.mem_cons_self
  have hfne : ∀ r ∈ I ++ [l], f r ≠ [] := by
    intro r hr h
    have := (hf r hr).lens
    rw [h] at this
    exact parts_ne _ _ _ this.symm
  have hPne : (I ++ [l]).flatMap f ≠ [] := by
    intro h
    rw [List.flatMap_append] at h
    have := (List.append_eq_nil_iff.mp h).2
    simp at this
    exact hfne l hll this
  -- the pieces
  obtain ⟨Pi, pl, hP, hPi⟩ : ∃ Pi pl, (I ++ [l]).flatMap f = Pi ++ [pl] ∧ Pi ≠ [] := by
    rcases List.eq_nil_or_concat (f l) with h | ⟨A, pl, h⟩
    · exact absurd h (hfne l hll)
    · rw [List.concat_eq_append] at h
      refine ⟨I.flatMap f ++ A, pl, by rw [List.flatMap_append]; show _ ++ (f l ++ []) = _; rw [h]; simp, ?_⟩
      intro h2
      obtain ⟨h3, _⟩ := List.append_eq_nil_iff.mp h2
      cases I with
      | nil => exact hI rfl
      | cons r I =>
        rw [List.flatMap_cons] at h3
        exact hfne r (by simp) (List.append_eq_nil_iff.mp h3).1
  have heach : ∀ p ∈ Pi ++ [pl], PieceOk p := by
    intro p hp
    rw [← hP] at hp
    obtain ⟨r, hr, hp⟩ := List.mem_flatMap.mp hp
    exact (hf r hr).each p hp
  have hlens : (Pi ++ [pl]).map (fun p => ((ptext p).length : Int)) = (I ++ [l]).flatMap fun r => partsT (mk r) (needT (mk r)) (k + 1) := by
    rw [← hP, List.map_flatMap]
    have : ∀ R : List (List Nat), (∀ r ∈ R, r ∈ I ++ [l]) → (R.flatMap fun r => (f r).map fun p => ((ptext p).length : Int)) = R.flatMap fun r => partsT (mk r) (needT (mk r)) (k + 1) := by
      intro R
      induction R with
      | nil => intro _; rfl
      | cons r R ih =>
        intro h
        rw [List.flatMap_cons, List.flatMap_cons, (hf r (h r List.mem_cons_self)).lens, ih fun q hq => h q (List.mem_cons_of_mem _ hq)]
    exact this _ fun r hr => hr
  have hdecs : (Pi ++ [pl]).flatMap (fun p => decOf p.1 p.2) = whole [10] I l ++ [10] := by
    rw [← hP, List.flatMap_assoc, whole_flat]
    have : ∀ R : List (List Nat), (∀ r ∈ R, r ∈ I ++ [l]) → (R.flatMap fun r => (f r).flatMap fun p => decOf p.1 p.2) = R.flatMap (· ++ [10]) := by
      intro R
      induction R with
      | nil => intro _; rfl
      | cons r R ih =>
        intro h
        rw [List.flatMap_cons, List.flatMap_cons, (hf r (h r List.mem_cons_self)).dec, ih fun q hq => h q (List.mem_cons_of_mem _ hq)]
    exact this _ fun r hr => hr
  -- the translated text and its lines
  have hz : (⟨((mk (whole [10] I l)).cps.toList.flatMap tr).toArray⟩ : Str) = mk (whole [10] (I.map TR) (TR l)) := by
    rw [mk_toList, whole_tr]
  have hnbI : ∀ q ∈ I.map TR, NB q := by
    intro q hq
    obtain ⟨r, hr, rfl⟩ := List.mem_map.mp hq
    exact tr_nb (hrow r (hlI r hr)).chars
  have hnbl : NB (TR l) := tr_nb (hrow l hll).chars
  have hlines : Txt.lines (mk (whole [10] (I.map TR) (TR l))) = (I.map TR ++ if TR l = [] then [] else [TR l]).map mk := lines_of .lf hnbI hnbl
  have hsegs : (Txt.lines (mk (whole [10] (I.map TR) (TR l)))).flatMap (segsT k (mk s)) ++ (if (Builtin.Str.occurrences (Str.ofString "\x0d\n") (Txt.item (mk (whole [10] (I.map TR) (TR l))) (-1)) 0 (Str.ofString "\x0d\n").length 1).isEmpty = true then [] else [Str.ofString ""]) = (I ++ [l]).flatMap fun r => segsT k (mk s) (mk (TR r)) := by
    rw [hlines]
    by_cases hl0 : TR l = []
    · rw [if_pos hl0, hl0, List.append_nil]
      obtain ⟨q, c, e, hc⟩ := whole_nil_last .lf (I := I.map TR) (by simpa using hI)
      rw [e, end_at, hc]
      rw [if_neg (by decide), List.map_map, List.flatMap_map, List.flatMap_append]
      congr 1
      show _ = segsT k (mk s) (mk (TR l)) ++ []
      rw [hl0, segs_nil]
      show [Str.ofString ""] = [mk []] ++ []
      rw [show Str.ofString "" = mk [] from by decide +kernel]
      rfl
    · rw [if_neg hl0]
      obtain ⟨q, d, e⟩ : ∃ q d, TR l = q ++ [d] := by
        rcases List.eq_nil_or_concat (TR l) with h | ⟨q, d, h⟩
        · exact absurd h hl0
        · exact ⟨q, d, by rw [h, List.concat_eq_append]⟩
      have hd := nb_end (hnbl d (by rw [e]; simp))
      have ew : whole [10] (I.map TR) (TR l) = ((I.map TR).flatMap (· ++ [10]) ++ q) ++ [d] := by rw [e]; simp [whole]
      rw [ew, end_at, hd, if_pos (by decide), List.append_nil, List.map_append, List.map_map, List.flatMap_append, List.flatMap_map, List.flatMap_append]
      rfl
  have hxne : (mk (whole [10] I l)).length ≠ 0 := by
    rw [mk_len]
    cases I with
    | nil => exact absurd rfl hI
    | cons r I => simp [whole]
  -- the letter
  have hnbPi : ∀ q ∈ Pi.map ptext, NB q := by
    intro q hq
    obtain ⟨p, hp, rfl⟩ := List.mem_map.mp hq
    exact (heach p (List.mem_append_left _ hp)).nb
  have hnbpl : NB (ptext pl) := (heach pl (List.mem_append_right _ List.mem_cons_self)).nb
  have hJ : JZ s ((I ++ [l]).flatMap fun r => segsT k (mk s) (mk (TR r))) = whole s (Pi.map ptext) (ptext pl) ++ s := by
    rw [whole_flat]
    have e1 : (Pi.map ptext ++ [ptext pl]).flatMap (· ++ s) = JP s (Pi ++ [pl]) := by
      show _ = (Pi ++ [pl]).flatMap fun p => ptext p ++ s
      rw [show Pi.map ptext ++ [ptext pl] = (Pi ++ [pl]).map ptext from by simp, List.flatMap_map]
    rw [e1, ← hP]
    show (((I ++ [l]).flatMap fun r => segsT k (mk s) (mk (TR r))).flatMap fun z => z.cps.toList ++ s) = ((I ++ [l]).flatMap f).flatMap fun p => ptext p ++ s
    rw [List.flatMap_assoc, List.flatMap_assoc]
    have : ∀ R : List (List Nat), (∀ r ∈ R, r ∈ I ++ [l]) → (R.flatMap fun r => (segsT k (mk s) (mk (TR r))).flatMap fun z => z.cps.toList ++ s) = R.flatMap fun r => (f r).flatMap fun p => ptext p ++ s := by
      intro R
      induction R with
      | nil => intro _; rfl
      | cons r R ih =>
        intro h
        have h1 := (hf r (h r List.mem_cons_self)).segs
        rw [List.flatMap_cons, List.flatMap_cons, ih fun q hq => h q (List.mem_cons_of_mem _ hq)]
        congr 1
    exact this _ fun r hr => hr
  have hZne : ((I ++ [l]).flatMap fun r => segsT k (mk s) (mk (TR r))) ≠ [] := by
    intro h
    rw [h] at hJ
    have h0 : whole s (Pi.map ptext) (ptext pl) ++ s = [] := hJ.symm
    have := (List.append_eq_nil_iff.mp h0).2
    cases hs <;> cases this
  have henc : encT k (mk s) (mk (whole [10] I l)) = mk (whole s (Pi.map ptext) (ptext pl)) := by
    unfold encT
    rw [if_neg hxne, hz, hsegs]
    have h1 := join_JZ (s := s) hZne
    rw [hJ] at h1
    have h2 := List.append_cancel_right h1
    rw [← mk_of (Txt.join (mk s) _), h2]
  have hlinesE : Txt.lines (mk (whole s (Pi.map ptext) (ptext pl))) = (Pi.map ptext ++ if ptext pl = [] then [] else [ptext pl]).map mk := lines_of hs hnbPi hnbpl
  have hmemE : ∀ z ∈ Txt.lines (mk (whole s (Pi.map ptext) (ptext pl))), ∃ p ∈ Pi ++ [pl], z = mk (ptext p) := by
    intro z hz
    rw [hlinesE] at hz
    obtain ⟨q, hq, rfl⟩ := List.mem_map.mp hz
    rcases List.mem_append.mp hq with hq | hq
    · obtain ⟨p, hp, rfl⟩ := List.mem_map.mp hq
      exact ⟨p, List.mem_append_left _ hp, rfl⟩
    · split at hq
      · cases hq
      · rw [List.mem_singleton.mp hq]; exact ⟨pl, List.mem_append_right _ List.mem_cons_self, rfl⟩
  have hlenx := whole_short fun r hr => (hrow r hr).short
  refine ⟨?_, ?_, ?_, ?_, hk, ?_, ?_, ?_, ?_, ?_⟩
  · rw [mk_len]; omega
  · rw [mk_toList]
    intro c hc
    rcases List.mem_append.mp hc with hc | hc
    · obtain ⟨r, hr, hc⟩ := List.mem_flatMap.mp hc
      rcases List.mem_append.mp hc with hc | hc
      · exact rowB_ok ((hrow r (hlI r hr)).chars c hc)
      · rw [List.mem_singleton.mp hc]; decide
    · exact rowB_ok ((hrow l hll).chars c hc)
  · rw [mk_len]; cases hs <;> decide
  · rw [mk_len]; cases hs <;> decide
  · rw [hz, hlines]
    intro z hz
    obtain ⟨q, hq, rfl⟩ := List.mem_map.mp hz
    rcases List.mem_append.mp hq with hq | hq
    · obtain ⟨r, hr, rfl⟩ := List.mem_map.mp hq
      exact (hf r (hlI r hr)).line
    · split at hq
      · cases hq
      · rw [List.mem_singleton.mp hq]; exact (hf l hll).line
  · rw [henc, mk_len]
    have h1 := whole_len hs (Pi ++ [pl])
    have h2 := flat_sum_le (R := I ++ [l]) (f := f) (b := 43) fun r hr => by
      have hl := (hf r hr).lens
      refine ⟨?_, ?_⟩
      · rw [hl]
        have h3 := parts_sum (mk r) (needT (mk r)) (k + 1)
        have h4 := need_le (hrow r hr).wide
        omega
      · have := congrArg List.length hl
        rw [List.length_map] at this
        rw [this]; exact parts_two _ _ _
    rw [hP] at h2
    obtain ⟨h3, h4⟩ := h2
    have h5 : ((Pi ++ [pl]).flatMap fun p => ptext p ++ s) = whole s (Pi.map ptext) (ptext pl) ++ s := by
      rw [whole_flat, show Pi.map ptext ++ [ptext pl] = (Pi ++ [pl]).map ptext from by simp, List.flatMap_map]
    rw [h5, List.length_append] at h1
    have h6 : (I ++ [l]).length = I.length + 1 := by simp
    rw [h6] at h3 h4
    have h7 : ((I.length + 1 : Nat) : Int) * 43 ≤ 430 := by omega
    have h8 : (((I.length + 1 : Nat) : Int)) * ((43 : Nat) : Int) ≤ 430 := h7
    omega
  · rw [henc]
    intro z hz
    obtain ⟨p, hp, rfl⟩ := hmemE z hz
    have ho := heach p hp
    rw [toks_piece ho]
    exact ⟨⟨mk_toList _, fun t ht => tok_ok (ho.tok t ht)⟩, rstrip_same' ho.fin⟩
  · rw [henc, hlinesE]
    have hD : ∀ Q : List (List (Nat × Bool) × Bool), (∀ p ∈ Q, PieceOk p) → ((Q.map ptext).map mk).flatMap (fun y => decOf (toksOf y).1 (toksOf y).2) = Q.flatMap fun p => decOf p.1 p.2 := by
      intro Q
      induction Q with
      | nil => intro _; rfl
      | cons p Q ih =>
        intro h
        rw [List.map_cons, List.map_cons, List.flatMap_cons, List.flatMap_cons, ih fun q hq => h q (List.mem_cons_of_mem _ hq), toks_piece (h p List.mem_cons_self)]
    have hpos : (mk (whole s (Pi.map ptext) (ptext pl))).length ≠ 0 := by
      rw [mk_len]
      cases Pi with
      | nil => exact absurd rfl hPi
      | cons p Pi => obtain ⟨c, r, rfl, _⟩ := sep_head hs; simp [whole]
    rw [bne_eq_false_iff_eq]
    unfold decT
    rw [if_neg hpos]
    rw [List.flatMap_append] at hdecs
    by_cases hl0 : ptext pl = []
    · rw [if_pos hl0, List.append_nil, hD Pi fun p hp => heach p (List.mem_append_left _ hp)]
      have hpl := piece_nil hl0
      have e10 : [pl].flatMap (fun p => decOf p.1 p.2) = [10] := by rw [hpl]; rfl
      rw [e10] at hdecs
      have hDx := List.append_cancel_right hdecs
      rw [hl0]
      obtain ⟨q, c, e, hc⟩ := whole_nil_last hs (I := Pi.map ptext) (by simpa using hPi)
      rw [e, end_at, hc, if_neg (by decide), hDx]
    · rw [if_neg hl0, show Pi.map ptext ++ [ptext pl] = (Pi ++ [pl]).map ptext from by simp, hD _ heach, List.flatMap_append, hdecs]
      obtain ⟨q, d, e⟩ : ∃ q d, ptext pl = q ++ [d] := by
        rcases List.eq_nil_or_concat (ptext pl) with h | ⟨q, d, h⟩
        · exact absurd h hl0
        · exact ⟨q, d, by rw [h, List.concat_eq_append]⟩
      have hd := nb_end (hnbpl d (by rw [e]; simp))
      have ew : whole s (Pi.map ptext) (ptext pl) = ((Pi.map ptext).flatMap (· ++ s) ++ q) ++ [d] := by rw [e]; simp [whole]
      rw [ew, end_at, hd, if_pos (by decide)]
      rw [if_pos (ends_nl _)]
      exact slice_initN _ _
  · rw [henc, split_of hs hnbPi hnbpl, ← hlens, List.map_map, show Pi.map ptext ++ [ptext pl] = (Pi ++ [pl]).map ptext from by simp, List.map_map]
    apply List.map_congr_left
    intro p _
    exact mkl _
end TextPL4
end Mine
namespace Mine
section TextPL5
set_option maxRecDepth 100000
set_option maxHeartbeats 1000000
open PySem.StrLaws
noncomputable def partsAt (rows : List (Option Int × Str)) (W M : Int) (i : Nat) : List Int := match rows[i]? with
  | some r => partsT (rowT W r) (needT (rowT W r)) M
  | none => []
theorem partsAt_two (rows : List (Option Int × Str)) (W M : Int) (i : Nat) : (partsAt rows W M i).length ≤ 2 := by
  unfold partsAt
  split
  · exact parts_two _ _ _
  · simp
theorem partsAt_of {rows : List (Option Int × Str)} {W M : Int} {i : Nat} {r : Option Int × Str} (h : rows[i]? = some r) : partsAt rows W M i = partsT (rowT W r) (needT (rowT W r)) M := by unfold partsAt; rw [h]
theorem range_get {α β : Type} (g : α → List β) (f : Nat → List β) : ∀ (l : List α) (c : Nat), (∀ i x, l[i]? = some x → f (c + i) = g x) → (List.range' c l.length).flatMap f = l.flatMap g
  | [], _, _ => rfl
  | a :: l, c, h => by
    rw [List.length_cons, List.range'_succ, List.flatMap_cons, List.flatMap_cons, range_get g f l (c + 1) fun i x hx => by have := h (i + 1) x hx; rw [show c + (i + 1) = c + 1 + i from by omega] at this; exact this]
    have := h 0 a rfl
    rw [Nat.add_zero] at this
    rw [this]
theorem parts_range {rows : List (Option Int × Str)} {W M : Int} {n : Nat} (hn : n = rows.length) : (List.range n).flatMap (partsAt rows W M) = rows.flatMap fun r => partsT (rowT W r) (needT (rowT W r)) M := by
  rw [hn, List.range_eq_range']
  refine range_get _ _ rows 0 fun i x hx => ?_
  rw [Nat.zero_add]
  exact partsAt_of hx
theorem need_small {r : List Nat} (h : r.length ≤ 1) : needT (mk r) ≤ 3 := by
  rcases List.eq_nil_or_concat r with rfl | ⟨q, c, rfl⟩
  · rw [needT_nil]; omega
  · rw [List.concat_eq_append] at *
    have hq : q = [] := by
      rw [List.length_append] at h
      simp only [List.length_cons, List.length_nil] at h
      exact List.length_eq_zero_iff.mp (by omega)
    subst hq
    rw [needT_snoc]
    show (((tr c ++ []).length : Nat) : Int) + _ ≤ 3
    rw [List.append_nil]
    have h3 := tr_len c
    split
    · rename_i hb
      rw [tr_blank hb]
      show ((1 : Nat) : Int) + 2 ≤ 3
      decide
    · omega
theorem need_ge {r : List Nat} : (r.length : Int) ≤ needT (mk r) := by
  rcases List.eq_nil_or_concat r with rfl | ⟨q, c, rfl⟩
  · rw [needT_nil]; decide
  · rw [List.concat_eq_append, needT_snoc]
    have := trs_ge (q ++ [c])
    split <;> omega
theorem mul_one : Txt.mul (Str.ofString "\n") ((1 : Nat) : Int) = mk [10] := by decide +kernel
theorem mul_zero : Txt.mul (Str.ofString "\n") ((0 : Nat) : Int) = mk [] := by decide +kernel
/-- the law's rows as lists of signs -/
structure RowsIn (W M : Int) (rows : List (Option Int × Str)) : Prop where
  count : 4 ≤ rows.length ∧ rows.length ≤ 9
  chars : ∀ r ∈ rows, ∀ c ∈ (rowT W r).cps.toList, rowB c = true
  short : ∀ r ∈ rows, (rowT W r).length ≤ 13
  top : ∀ r ∈ rows, needT (rowT W r) ≤ M
  least : 4 ≤ M
theorem text_sign {c : Nat} (h : c = 97 ∨ c = 61 ∨ c = 32 ∨ c = 9 ∨ c = 233) : rowB c = true := by rcases h with rfl | rfl | rfl | rfl | rfl <;> decide
theorem lab_sign {c : Nat} (h : LabC c) : rowB c = true := by
  unfold LabC at h
  unfold rowB
  simp only [Bool.or_eq_true, Bool.and_eq_true, beq_iff_eq, decide_eq_true_eq]
  omega
theorem mul_signs (n : Int) : ∀ c ∈ (Txt.mul (Str.ofString " ") n).cps.toList, c = 32 := by
  have h1 : (Str.ofString " ").cps.toList = [32] := by decide +kernel
  have key : ∀ (k : Nat) (acc : Array Nat), (∀ c ∈ acc.toList, c = 32) → ∀ c ∈ ((List.replicate k (Str.ofString " ").cps).foldl (· ++ ·) acc).toList, c = 32 := by
    intro k
    induction k with
    | zero => intro acc h; exact h
    | succ k ih =>
      intro acc h
      rw [List.replicate_succ, List.foldl_cons]
      refine ih _ fun c hc => ?_
      rw [Array.toList_append] at hc
      rcases List.mem_append.mp hc with hc | hc
      · exact h c hc
      · rw [h1] at hc; exact List.mem_singleton.mp hc
  unfold Txt.mul
  split
  · intro c hc; cases hc
  · split
    · intro c hc; rw [h1] at hc; exact List.mem_singleton.mp hc
    · exact key _ #[] fun c hc => nomatch hc
theorem row_chars {W : Int} {r : Option Int × Str} (h : ∀ c ∈ r.2.cps.toList, c = 97 ∨ c = 61 ∨ c = 32 ∨ c = 9 ∨ c = 233) : ∀ c ∈ (rowT W r).cps.toList, rowB c = true := by
  unfold rowT
  split
  · exact fun c hc => text_sign (h c hc)
  · intro c hc
    rw [app_cps, app_cps, app_cps] at hc
    rcases List.mem_append.mp hc with hc | hc
    · rcases List.mem_append.mp hc with hc | hc
      · rcases List.mem_append.mp hc with hc | hc
        · rw [mul_signs _ c hc]; decide
        · exact lab_sign (label_chars _ c hc)
      · rw [show (Str.ofString " ").cps.toList = [32] from by decide +kernel] at hc
        rw [List.mem_singleton.mp hc]; decide
    · exact text_sign (h c hc)
theorem row_len13 {W : Int} {r : Option Int × Str} (h0 : 0 ≤ W) (h7 : W ≤ 7) (h1 : (labelT r.1).length ≤ 7) (h2 : r.2.length ≤ 5) : (rowT W r).length ≤ 13 ∧ r.2.length ≤ (rowT W r).length := by
  unfold rowT
  split
  · omega
  · rw [Str.length_append, Str.length_append, Str.length_append]
    have h4 : (Str.ofString " ").length = 1 := by decide +kernel
    have h3 := len_mul (Str.ofString " ") (W - ((labelT r.1).length : Int))
    rw [h4] at h3
    by_cases hn : W - ((labelT r.1).length : Int) < 0
    · rw [if_pos (decide_eq_true hn)] at h3
      omega
    · rw [if_neg (by rw [decide_eq_false hn]; exact Bool.false_ne_true)] at h3
      omega
theorem rows_in {total : Int} {ns : List Int} {rows : List (Option Int × Str)} {W M : Int} {NL : List Int} (hro : RowsOf total ([8, 62, 122, 4] ++ List.take 5 ns) rows) (hl : rows.length = 4 + min 5 ns.length) (hW : 0 ≤ W ∧ W ≤ 7) (hNL : NL = (rows.map (rowT W)).map needT) (hmax : ∀ a, a ∈ NL → a ≤ M) : RowsIn W M rows := by
  have hlen : ∀ r ∈ rows, (rowT W r).length ≤ 13 ∧ r.2.length ≤ (rowT W r).length := fun r hr => row_len13 hW.1 hW.2 (label_len (rows_pos hro hl r hr)).2 (text_len hro hl r hr).1
  have htop : ∀ r ∈ rows, needT (rowT W r) ≤ M := fun r hr => hmax _ (by rw [hNL]; exact List.mem_map.mpr ⟨_, List.mem_map.mpr ⟨r, hr, rfl⟩, rfl⟩)
  refine ⟨by omega, fun r hr => row_chars (text_len hro hl r hr).2, fun r hr => (hlen r hr).1, htop, ?_⟩
  obtain ⟨r, hr⟩ : ∃ r, rows[3]? = some r := ⟨_, List.getElem?_eq_getElem (by omega)⟩
  have hm := List.mem_of_getElem? hr
  have h1 := (hro 3 4 r rfl hr).len
  have h4 : (4 : Int).fmod 6 = 4 := by decide
  rw [h4] at h1
  have h2 := (hlen r hm).2
  have h3 := htop r hm
  have h5 := need_ge (r := (rowT W r).cps.toList)
  rw [mk_of] at h5
  have h6 : (rowT W r).cps.toList.length = (rowT W r).length := Array.length_toList
  omega
theorem max_le {W M : Int} {rows : List (Option Int × Str)} (h : RowsIn W M rows) (hM : M ∈ (rows.map (rowT W)).map needT) : M ≤ 42 := by
  obtain ⟨y, hy, rfl⟩ := List.mem_map.mp hM
  obtain ⟨r, hr, rfl⟩ := List.mem_map.mp hy
  have h1 := need_le (r := (rowT W r).cps.toList) (by
    have := trs_len (rowT W r).cps.toList
    have h2 := h.short r hr
    have h3 : (rowT W r).cps.toList.length = (rowT W r).length := Array.length_toList
    show ((rowT W r).cps.toList.flatMap tr).length ≤ 40
    omega)
  rw [mk_of] at h1
  exact h1
/-- the listing as pieces -/
theorem listing_is {W M total : Int} {rows : List (Option Int × Str)} {rs : List (Str × Tok)} {vsl : List Value} (h : RowsIn W M rows) (hrs : rs.map (·.1) = rows.map (rowT W)) (hv : IntsAre vsl (lastT total)) :
    ∃ I l, Txt.join (Str.ofString "\n") (rs.map (·.1)) ++ Txt.mul (Str.ofString "\n") ((vsl.length : Nat) : Int) = mk (whole [10] I l) ∧ I ++ [l] = rows.map (fun r => (rowT W r).cps.toList) ++ (lastT total).map (fun _ => []) ∧ I ≠ [] ∧ I.length ≤ 9 := by
  have hvl := hv.length
  obtain ⟨A, z, e⟩ : ∃ A z, rows.map (fun r => (rowT W r).cps.toList) = A ++ [z] := by
    rcases List.eq_nil_or_concat (rows.map fun r => (rowT W r).cps.toList) with h1 | ⟨A, z, h1⟩
    · have := congrArg List.length h1
      rw [List.length_map, List.length_nil] at this
      have h2 := h.count.1
      omega
    · exact ⟨A, z, by rw [h1, List.concat_eq_append]⟩
  have hAl : A.length + 1 = rows.length := by have := congrArg List.length e; simp at this; omega
  have hj : Txt.join (Str.ofString "\n") (rs.map (·.1)) = mk (whole [10] A z) := by
    have e2 : rs.map (·.1) = (A ++ [z]).map mk := by
      rw [hrs, ← e, List.map_map]
      apply List.map_congr_left
      intro r _
      exact (mk_of _).symm
    rw [e2, nl_mk]
    exact join_of [10] A z
  rw [hj]
  by_cases ho : total.fmod 2 = 1
  · have hl : lastT total = [0] := if_pos ho
    rw [hl] at hvl ⊢
    have hvl1 : vsl.length = 1 := hvl
    rw [hvl1, mul_one, app_mk, whole_flat, ← e]
    refine ⟨rows.map (fun r => (rowT W r).cps.toList), [], by simp [whole], rfl, ?_, ?_⟩
    · rw [e]; simp
    · rw [List.length_map]; exact h.count.2
  · have hl : lastT total = [] := if_neg ho
    rw [hl] at hvl ⊢
    have hvl0 : vsl.length = 0 := hvl
    rw [hvl0, mul_zero, app_mk, List.append_nil]
    refine ⟨A, z, rfl, by rw [e]; simp, ?_, ?_⟩
    · rintro rfl
      have := h.count.1
      simp at hAl
      omega
    · have := h.count.2; omega
theorem eol_mk {y : Str} (h : EolOk y) : ∃ s, SepOk s ∧ y = mk s := by
  rcases h with rfl | rfl | rfl
  · exact ⟨[10], .lf, nl_mk⟩
  · exact ⟨[13, 10], .crlf, by decide +kernel⟩
  · exact ⟨[13], .cr, by decide +kernel⟩
theorem flat_map {rows : List (Option Int × Str)} {W k : Int} {total : Int} : (rows.map (fun r => (rowT W r).cps.toList) ++ (lastT total).map (fun _ => ([] : List Nat))).flatMap (fun r => partsT (mk r) (needT (mk r)) (k + 1)) = (rows.flatMap fun r => partsT (rowT W r) (needT (rowT W r)) (k + 1)) ++ ((lastT total).flatMap fun _ => partsT (mk []) (needT (mk [])) (k + 1)) := by
  rw [List.flatMap_append, List.flatMap_map, List.flatMap_map]
theorem last_flat {total k : Int} (hk : 4 ≤ k) : ((lastT total).flatMap fun _ => partsT (mk []) (needT (mk [])) (k + 1)) = lastT total := by
  have e : partsT (mk []) (needT (mk [])) (k + 1) = [0] := by
    rw [needT_nil]; unfold partsT; rw [if_pos (by omega)]
  rw [e]
  unfold lastT
  split <;> rfl
theorem law_letter {W M k total : Int} {rows : List (Option Int × Str)} {rs : List (Str × Tok)} {vsl : List Value} {xL ye : Str} (h : RowsIn W M rows) (hM : M ∈ (rows.map (rowT W)).map needT) (hk : 4 ≤ k ∧ (M ≤ k + 1 ∧ k ≤ M)) (hrs : rs.map (·.1) = rows.map (rowT W)) (hv : IntsAre vsl (lastT total))
    (hx : Txt.join (Str.ofString "\n") (rs.map (·.1)) ++ Txt.mul (Str.ofString "\n") ((vsl.length : Nat) : Int) = xL) (hy : EolOk ye) : LetterOk xL ye k ((rows.flatMap fun r => partsT (rowT W r) (needT (rowT W r)) (k + 1)) ++ lastT total) := by
  obtain ⟨s, hs, rfl⟩ := eol_mk hy
  obtain ⟨I, l, e1, e2, e3, e4⟩ := listing_is h hrs hv
  rw [hx] at e1
  subst e1
  have hM42 := max_le h hM
  have hrow : ∀ r ∈ I ++ [l], RowIn k r := by
    intro r hr
    rw [e2] at hr
    rcases List.mem_append.mp hr with hr | hr
    · obtain ⟨q, hq, rfl⟩ := List.mem_map.mp hr
      have h1 := h.short q hq
      have h2 := h.top q hq
      have h3 : (rowT W q).cps.toList.length = (rowT W q).length := Array.length_toList
      have h4 := trs_len (rowT W q).cps.toList
      refine ⟨h.chars q hq, by rw [mk_of]; omega, by omega, ?_⟩
      show ((rowT W q).cps.toList.flatMap tr).length ≤ 40
      omega
    · obtain ⟨_, _, rfl⟩ := List.mem_map.mp hr
      exact ⟨(fun _ h => nomatch h), by rw [needT_nil]; omega, Nat.zero_le _, Nat.zero_le _⟩
  have hok := letter_ok hs ⟨hk.1, by omega⟩ e3 hrow e4
  rw [e2, flat_map, last_flat hk.1] at hok
  exact hok
theorem law_letter_most {W M total : Int} {rows : List (Option Int × Str)} {rs : List (Str × Tok)} {vsl : List Value} {xL ye : Str} {NL : List Int} (h : RowsIn W M rows) (hNL : NL = (rows.map (rowT W)).map needT) (hM : M ∈ NL) (hrs : rs.map (·.1) = rows.map (rowT W)) (hv : IntsAre vsl (lastT total))
    (hx : Txt.join (Str.ofString "\n") (rs.map (·.1)) ++ Txt.mul (Str.ofString "\n") ((vsl.length : Nat) : Int) = xL) (hy : EolOk ye) : LetterOk xL ye M (NL ++ lastT total) := by
  rw [hNL] at hM
  have h1 := law_letter h hM ⟨h.least, by omega, Int.le_refl _⟩ hrs hv hx hy
  have e : (rows.flatMap fun r => partsT (rowT W r) (needT (rowT W r)) (M + 1)) = NL := by
    rw [hNL, List.map_map]
    have : ∀ R : List (Option Int × Str), (∀ r ∈ R, r ∈ rows) → (R.flatMap fun r => partsT (rowT W r) (needT (rowT W r)) (M + 1)) = R.map (needT ∘ rowT W) := by
      intro R
      induction R with
      | nil => intro _; rfl
      | cons r R ih =>
        intro hR
        have h2 := h.top r (hR r List.mem_cons_self)
        rw [List.flatMap_cons, List.map_cons, ih fun q hq => hR q (List.mem_cons_of_mem _ hq)]
        have e2 : partsT (rowT W r) (needT (rowT W r)) (M + 1) = [needT (rowT W r)] := by unfold partsT; rw [if_pos (by omega)]
        rw [e2]; rfl
    exact this rows fun r hr => hr
  rw [e] at h1
  exact h1
theorem law_letter_less {W M total : Int} {rows : List (Option Int × Str)} {rs : List (Str × Tok)} {vsl : List Value} {xL ye : Str} {NL : List Int} {n : Nat} (h : RowsIn W M rows) (hNL : NL = (rows.map (rowT W)).map needT) (hM : M ∈ NL) (h4 : M ≠ 4) (hn : n = rows.length) (hrs : rs.map (·.1) = rows.map (rowT W)) (hv : IntsAre vsl (lastT total))
    (hx : Txt.join (Str.ofString "\n") (rs.map (·.1)) ++ Txt.mul (Str.ofString "\n") ((vsl.length : Nat) : Int) = xL) (hy : EolOk ye) : LetterOk xL ye (M - 1) ((List.range n).flatMap (partsAt rows W M) ++ lastT total) := by
  rw [hNL] at hM
  have hl := h.least
  have h1 := law_letter (k := M - 1) h hM ⟨by omega, by omega, by omega⟩ hrs hv hx hy
  rw [show M - 1 + 1 = M from by omega] at h1
  rw [parts_range hn]
  exact h1
theorem row_facts {W M : Int} {rows : List (Option Int × Str)} {r : Option Int × Str} {NL : List Int} (h : RowsIn W M rows) (hNL : NL = (rows.map (rowT W)).map needT) (hM : M ∈ NL) (h4 : M ≠ 4) (hr : r ∈ rows) :
    (needT (rowT W r) < M ∨ 2 ≤ (rowT W r).length) ∧ (rowT W r).length ≤ 1000 ∧ (0 ≤ needT (rowT W r) ∧ needT (rowT W r) ≤ 1000) ∧ 0 ≤ M ∧ M ≤ 1000 := by
  rw [hNL] at hM
  have hM42 := max_le h hM
  have hl := h.least
  have h1 := h.short r hr
  have h2 := h.top r hr
  have h3 := need_ge (r := (rowT W r).cps.toList)
  rw [mk_of] at h3
  have h5 : (rowT W r).cps.toList.length = (rowT W r).length := Array.length_toList
  refine ⟨?_, by omega, ⟨by omega, by omega⟩, by omega, by omega⟩
  by_cases h6 : 2 ≤ (rowT W r).length
  · exact .inr h6
  · left
    have h7 := need_small (r := (rowT W r).cps.toList) (by omega)
    rw [mk_of] at h7
    omega
end TextPL5
end Mine
namespace Mine
section TextL1
set_option maxRecDepth 100000
set_option maxHeartbeats 1000000
section
variable {prog : Program} {w : World} {A : Around} {E : Value → Shared → Prop} {s : Shared} {h₀ : Heap} {L : Addr} {all : List (Addr × Obj)}
theorem ends_pick {value slice : Expr} {T : Addr} {x y z : Str} {a b c u : Tok} {total : Int} {Q : Value → Shared → Prop} (N : News h₀ L s.heap all)
    (hm : (T, { cls := .type "tuple", data := .seq #[.str x a, .str y b, .str z c] }) ∈ all) (h0 : Q (.str x a) s) (h1 : Q (.str y b) s) (h2 : Q (.str z c) s)
    (hs : ∀ k : Int, subscripted slice false (.ref T) (.int k u) = operate [.ref T, .int k u] (getItem (.ref T) (.int k u))) :
    wpAny (model prog w) A (subscriptTail value slice (.ref T) (.int (total.fmod 3) u)) Q E s := by
  have e0 := Int.fmod_nonneg_of_pos total (show (0 : Int) < 3 by decide)
  have e1 := Int.fmod_lt_of_pos total (show (0 : Int) < 3 by decide)
  have e : total.fmod 3 = 0 ∨ total.fmod 3 = 1 ∨ total.fmod 3 = 2 := by omega
  rcases e with e | e | e <;> rw [e]
  · exact item_tupleT (l := [.str x a, .str y b, .str z c]) (j := 0) ⟨_, (N _ hm).1, rfl, _, rfl⟩ (by decide) (by decide) rfl rfl h0 (hs 0)
  · exact item_tupleT (l := [.str x a, .str y b, .str z c]) (j := 1) ⟨_, (N _ hm).1, rfl, _, rfl⟩ (by decide) (by decide) rfl rfl h1 (hs 1)
  · exact item_tupleT (l := [.str x a, .str y b, .str z c]) (j := 2) ⟨_, (N _ hm).1, rfl, _, rfl⟩ (by decide) (by decide) rfl rfl h2 (hs 2)
end
theorem its_len {l : List (Addr × Obj)} {its : List Value} {rows : List (Option Int × Str)} {n : Nat} (h : DatAll l its (rows.map rowDat)) (hr : rows.length = 4 + min 5 n) : its.length = rows.length ∧ its.toArray.size ≤ 9 ∧ its.length ≤ 9 ∧ 4 ≤ its.length := by
  have e : its.length = rows.length := by rw [h.length, List.length_map]
  refine ⟨e, by rw [List.size_toArray]; omega, by omega, by omega⟩
theorem led_order {h₀ h : Heap} {L : Addr} {a : Addr × Obj} {news tl : List (Addr × Obj)} (N : News h₀ L h (a :: (tl ++ news))) : News h₀ L h (a :: (news ++ tl)) := by
  refine cb_drop N fun p hp => ?_
  simp only [List.mem_cons, List.mem_append] at hp ⊢
  rcases hp with hp | hp | hp <;> simp [hp]
theorem words_15 : True := by
  k_with_none
  (k_with "ne" => (first | k_extra "ne0" | k_extra "ne1"))
  (k_with "ne0" => (with_reducible first | assumption | exact Nat.succ_ne_self _ | exact (Nat.succ_ne_self _).symm | exact ne_off2 | exact ne_off2.symm | exact ne_off3 | exact ne_off3.symm | exact ne_off4 | exact ne_off4.symm | exact ne_off5 | exact ne_off5.symm))
  (k_with "ne1" => (((with_reducible rename _ ∧ _ => h9); first | (with_reducible first | exact h9.1.symm | exact Nat.ne_of_gt h9.1 | exact h9.1 | exact Nat.ne_of_lt h9.1 | exact h9.2.1.symm | exact Nat.ne_of_gt h9.2.1 | exact h9.2.1 | exact Nat.ne_of_lt h9.2.1 | exact h9.2.2.1.symm | exact Nat.ne_of_gt h9.2.2.1 | exact h9.2.2.1 | exact Nat.ne_of_lt h9.2.2.1 | exact h9.2.2.2.1.symm | exact Nat.ne_of_gt h9.2.2.2.1 | exact h9.2.2.2.1 | exact Nat.ne_of_lt h9.2.2.2.1 | exact h9.2.2.2.2.1.symm | exact Nat.ne_of_gt h9.2.2.2.2.1 | exact h9.2.2.2.2.1 | exact Nat.ne_of_lt h9.2.2.2.2.1 | exact h9.2.2.2.2.2.1.symm | exact Nat.ne_of_gt h9.2.2.2.2.2.1 | exact h9.2.2.2.2.2.1 | exact Nat.ne_of_lt h9.2.2.2.2.2.1 | exact h9.2.2.2.2.2.2.1.symm | exact Nat.ne_of_gt h9.2.2.2.2.2.2.1 | exact h9.2.2.2.2.2.2.1 | exact Nat.ne_of_lt h9.2.2.2.2.2.2.1 | exact h9.2.2.2.2.2.2.2.1.symm | exact Nat.ne_of_gt h9.2.2.2.2.2.2.2.1 | exact h9.2.2.2.2.2.2.2.1 | exact Nat.ne_of_lt h9.2.2.2.2.2.2.2.1 | exact h9.2.2.2.2.2.2.2.2.1.symm | exact Nat.ne_of_gt h9.2.2.2.2.2.2.2.2.1 | exact h9.2.2.2.2.2.2.2.2.1 | exact Nat.ne_of_lt h9.2.2.2.2.2.2.2.2.1 | exact h9.2.2.2.2.2.2.2.2.2.1.symm | exact Nat.ne_of_gt h9.2.2.2.2.2.2.2.2.2.1 | exact h9.2.2.2.2.2.2.2.2.2.1 | exact Nat.ne_of_lt h9.2.2.2.2.2.2.2.2.2.1 | exact h9.2.2.2.2.2.2.2.2.2.2.1.symm | exact Nat.ne_of_gt h9.2.2.2.2.2.2.2.2.2.2.1 | exact h9.2.2.2.2.2.2.2.2.2.2.1 | exact Nat.ne_of_lt h9.2.2.2.2.2.2.2.2.2.2.1 | exact h9.2.2.2.2.2.2.2.2.2.2.2.1.symm | exact Nat.ne_of_gt h9.2.2.2.2.2.2.2.2.2.2.2.1 | exact h9.2.2.2.2.2.2.2.2.2.2.2.1 | exact Nat.ne_of_lt h9.2.2.2.2.2.2.2.2.2.2.2.1 | exact h9.2.2.2.2.2.2.2.2.2.2.2.2.1.symm | exact Nat.ne_of_gt h9.2.2.2.2.2.2.2.2.2.2.2.2.1 | exact h9.2.2.2.2.2.2.2.2.2.2.2.2.1 | exact Nat.ne_of_lt h9.2.2.2.2.2.2.2.2.2.2.2.2.1 | exact h9.2.2.2.2.2.2.2.2.2.2.2.2.2.1.symm | exact Nat.ne_of_gt h9.2.2.2.2.2.2.2.2.2.2.2.2.2.1 | exact h9.2.2.2.2.2.2.2.2.2.2.2.2.2.1 | exact Nat.ne_of_lt h9.2.2.2.2.2.2.2.2.2.2.2.2.2.1 | exact h9.2.2.2.2.2.2.2.2.2.2.2.2.2.2.1.symm | exact Nat.ne_of_gt h9.2.2.2.2.2.2.2.2.2.2.2.2.2.2.1 | exact h9.2.2.2.2.2.2.2.2.2.2.2.2.2.2.1 | exact Nat.ne_of_lt h9.2.2.2.2.2.2.2.2.2.2.2.2.2.2.1 | exact h9.2.2.2.2.2.2.2.2.2.2.2.2.2.2.2.1.symm | exact Nat.ne_of_gt h9.2.2.2.2.2.2.2.2.2.2.2.2.2.2.2.1 | exact h9.2.2.2.2.2.2.2.2.2.2.2.2.2.2.2.1 | exact Nat.ne_of_lt h9.2.2.2.2.2.2.2.2.2.2.2.2.2.2.2.1) | (clear h9; k_extra "ne1"))))
  (k_with "my eval Name" => ((k_here; (with_reducible show wpAny _ _ (eval (Expr.Name _ _) (compEnvC _ _ _ _)) _ _ _); name_kind "globalImplicit"; k_dflt (first
  | refine LCgL.ld_global (by k_asm) (by k_asm) (by k_asm) (by k_is) ?_
  | refine LCgL.ld_built (by k_asm) (by k_asm) (by k_asm) (by k_is) (by boot_by_name) (by decide) ?_))))
  (k_with "my call ref" => ((k_here; (with_reducible show wpAny _ _ (call (Value.ref 107) [Value.ref _]) _ _ _); (k_dflt (refine' lines_spec ?k1 ?k2 ?k3 ?k4 ?k5 ?kK ?kd ?ku ?kl ?ki ?kn ?_; (case k1 => k_asm); (case k2 => k_asm); (case k3 => k_asm); (case k4 => k_asm); (case k5 => k_asm); (case kK => first | exact rfl | assumption); (case kd => ktr_room); (case ku => ktr_units); (case kl => assumption); (case ki => assumption); (case kn => omega))); intro h9 tk9 D9 rows9 its9 nn9 tl9 hrl9 hro9 hoff9 lt9 hda9 F9 N9; (try k_lt lt9); obtain ⟨hn9, hn9a, hn9b, hn9c⟩ := its_len hda9 hrl9; replace N9 := led_order N9; (try simp only [List.cons_append, List.nil_append] at N9); (try simp only [List.map_cons, List.map_nil] at hoff9); (try dsimp only))))
  (k_with "my eval DictComp" => ((k_here; k_dflt (refine DictComp_R (by k_asm) (by with_unfolding_all rfl) (by decide) (by rfl) (by decide) (by rfl) ?_))))
  (k_with "my DSrc" => ((k_here; refine HoldC.out ?_)))
  trivial
local macro_rules | `(tactic| k_mem) => `(tactic| with_reducible assumption)
theorem words_16 : True := by
  (k_with "my subscriptTail" => ((k_here; (with_reducible show wpAny _ _ (subscriptTail _ _ (Value.ref _) (Value.int _ _)) _ _ _); first
  | ((with_reducible show wpAny _ _ (subscriptTail _ _ (Value.ref _) (Value.int 0 _)) _ _ _); k_dflt (refine' tup_0 ?N9 ?hm9 ?_; (case N9 => k_asm); (case hm9 => ((repeat (with_reducible refine List.mem_cons_of_mem _ ?_)); with_reducible assumption))))
  | ((with_reducible show wpAny _ _ (subscriptTail _ _ (Value.ref _) (Value.int 1 _)) _ _ _); k_dflt (refine' tup_1 ?N9 ?hm9 ?_; (case N9 => k_asm); (case hm9 => ((repeat (with_reducible refine List.mem_cons_of_mem _ ?_)); with_reducible assumption))))
  | k_dflt (refine' item_any ?N9 ?hm9 ?ha9 ?_; (case N9 => k_asm); (case hm9 => ((repeat (first | with_reducible exact List.mem_cons_self | with_reducible refine List.mem_cons_of_mem _ ?_)); done)); (case ha9 => with_reducible assumption))
  | refine HoldC.out ?_)))
  (k_with "my subscriptTail Name Name ref int" => ((k_here; (with_reducible show wpAny _ _ (subscriptTail _ _ (Value.ref _) (Value.int _ _)) _ _ _); first
  | ((with_reducible show wpAny _ _ (subscriptTail _ _ (Value.ref _) (Value.int 0 _)) _ _ _); k_dflt (refine' tup_0 ?N9 ?hm9 ?_; (case N9 => k_asm); (case hm9 => ((repeat (with_reducible refine List.mem_cons_of_mem _ ?_)); with_reducible assumption))))
  | ((with_reducible show wpAny _ _ (subscriptTail _ _ (Value.ref _) (Value.int 1 _)) _ _ _); k_dflt (refine' tup_1 ?N9 ?hm9 ?_; (case N9 => k_asm); (case hm9 => ((repeat (with_reducible refine List.mem_cons_of_mem _ ?_)); with_reducible assumption))))
  | k_dflt (refine' item_any ?N9 ?hm9 ?ha9 ?_; (case N9 => k_asm); (case hm9 => ((repeat (first | with_reducible exact List.mem_cons_self | with_reducible refine List.mem_cons_of_mem _ ?_)); done)); (case ha9 => with_reducible assumption))
  | refine HoldC.out ?_)))
  (k_with "my call builtin:len" => ((k_here; (with_reducible show wpAny _ _ (call (Value.builtin "len") [Value.ref _]) _ _ _); (k_dflt (refine' len_any ?N9 ?hm9 ?hz9 ?_; (case N9 => k_asm); (case hm9 => k_mem); (case hz9 => omega); intro t9 k9)))))
  (k_with "my DTurn" => ((k_here; refine HoldC.out ?_)))
  trivial
theorem num_rows {total : Int} {ns : List Int} {rows : List (Option Int × Str)} (hro : RowsOf total ([8, 62, 122, 4] ++ List.take 5 ns) rows) (hl : rows.length = 4 + min 5 ns.length) {k : Nat} (hk : k = rows.length) : ∀ n, some n ∈ (List.range k).map (numAt rows) → 1 ≤ n ∧ n ≤ 1000100 := by
  intro n hn
  rw [hk] at hn
  obtain ⟨r, hr, e⟩ := List.mem_map.mp ((numAt_mem _).mp hn)
  obtain ⟨j, hj⟩ := List.mem_iff_getElem?.mp hr
  obtain ⟨x, hx⟩ := row_of hro hl hj
  exact hx.num n e
theorem words_17 : True := by
  (k_with "my call ref" => ((k_here; (with_reducible show wpAny _ _ (call (Value.ref 102) [Value.ref _]) _ _ _); (k_dflt (refine' width_spec ?k1 ?k2 ?k3 ?k4 ?k5 ?kK rfl ?kod ?kv ?kos ?klo ?kd ?ku ?_; (case k1 => k_asm); (case k2 => k_asm); (case k3 => k_asm); (case k4 => k_asm); (case k5 => k_asm); (case kK => first | exact rfl | assumption); (case kod => assumption); (case kv => assumption); (case kos => assumption); (case klo => assumption); (case kd => ktr_room); (case ku => ktr_units))); intro b9 t9 h9 tk9 hb9 F9 N9; (try dsimp only))))
  (k_with "my TurnEnd" => ((k_here; refine HoldC.out ?_)))
  (k_with "my eval ListComp" => ((k_here; k_dflt first
  | ((with_reducible show wpAny _ _ (eval (Expr.ListComp _ [⟨Expr.Name _ _, _, _, _⟩] _ _) _) _ _ _); refine LCg.ListComp_U (F₀ := by k_asm) (by with_unfolding_all rfl) (by decide) (by rfl) (by decide) (by rfl) ?_)
  | ((with_reducible show wpAny _ _ (eval (Expr.ListComp _ [⟨Expr.Tuple _ _ _, _, _, _⟩] _ _) _) _ _ _); refine LCp.ListComp_P (F₀ := by k_asm) (by with_unfolding_all rfl) (by decide) (by rfl) (by decide) (by rfl) (by rfl) (by decide) ?_)
  | refine HoldC.out ?_)))
  (k_with "my exec Assign cons ListComp" => ((k_here; (with_unfolding_all refine wpAny_Assign_Name ?_ ?_); rotate_left; (with_unfolding_all rfl))))
  (k_with "my CompSrc" => ((k_here; k_dflt first
  | ((refine LCg.CompSrc.ledger (by rfl) (by k_asm) (by k_asm) (by k_mem) (by first | assumption | (rw [PySem.sizeLine_eq]; omega)) ?_; intro g'; refine HoldC.out ?_))
  | ((refine LCg.CompSrc.range (by rfl) (by k_asm) (by k_asm) (by assumption) (small_one (by omega) (by omega) (by omega) (by omega)) (rangeSize_nat _ _) (by rw [PySem.sizeLine_eq]; omega) ?_; intro g'; refine HoldC.out ?_)))))
  (k_with "my SrcLP" => ((k_here; k_dflt ((refine LCp.SrcLP.ledger (by rfl) (by k_asm) (by k_asm) (by k_mem) (by rw [List.size_toArray, PySem.sizeLine_eq]; omega) ?_; intro g'; refine HoldC.out ?_)))))
  (k_with "my TestEnd" => ((k_here; refine HoldC.out ?_)))
  (k_with "my isTrue Compare" => ((k_here; (with_reducible show wpAny _ _ (isTrue (Expr.Compare (Expr.Name _ _) [CmpOp.NotEq] _ _) _ _) _ _ _); (fail_if_success (with_reducible show wpAny _ _ _ (TestEnd _ _ _ _ _) _ _)); refine HoldC.out ?_)))
  (k_with "my call ref" => ((k_here; (with_reducible show wpAny _ _ (call (Value.ref 114) [Value.str _ _, Value.str _ _, Value.int _ _]) _ _ _); (k_dflt (refine' row_spec ?k1 ?k2 ?k3 ?k4 ?k5 ?kK ?kd ?ku ?ka ?kb ?kx ?ky ?_; (case k1 => k_asm); (case k2 => k_asm); (case k3 => k_asm); (case k4 => k_asm); (case k5 => k_asm); (case kK => first | exact rfl | assumption); (case kd => ktr_room); (case ku => ktr_units); (case ka => assumption); (case kb => assumption); (case kx => assumption); (case ky => assumption))); intro t9 h9 tk9 F9 N9; (try dsimp only))))
  (k_with "my call ref" => ((k_here; (with_reducible show wpAny _ _ (call (Value.ref 119) [Value.str _ _]) _ _ _); (k_dflt (refine' signs_spec ?k1 ?k2 ?k3 ?k4 ?k5 ?kK ?kd ?ku ?kx ?_; (case k1 => k_asm); (case k2 => k_asm); (case k3 => k_asm); (case k4 => k_asm); (case k5 => k_asm); (case kK => first | exact rfl | assumption); (case kd => ktr_room); (case ku => ktr_units); (case kx => assumption))); intro t9 h9 tk9 F9 N9; (try dsimp only))))
  trivial
theorem join_weight {total : Int} {ns : List Int} {rows : List (Option Int × Str)} {rs : List (Str × Tok)} {W : Int} (h7 : W ≤ 7) (hro : RowsOf total ([8, 62, 122, 4] ++ List.take 5 ns) rows) (hl : rows.length = 4 + min 5 ns.length) (hrs : rs.map (·.1) = rows.map (rowT W)) :
    ((rs.map (·.1)).map (·.length)).sum + (rs.length + 1) * (Str.ofString "\n").length ≤ 16777216 := by
  have b : ((rs.map (·.1)).map (·.length)).sum ≤ ((rs.map (·.1)).map (·.length)).length * 20 := by
    refine sum_le_mul fun x hx => ?_
    obtain ⟨y, hy, rfl⟩ := List.mem_map.mp hx
    exact rows_short h7 hro hl hrs hy
  rw [List.length_map, List.length_map] at b
  have e : rs.length = rows.length := by have := congrArg List.length hrs; simpa using this
  have e1 : (Str.ofString "\n").length = 1 := by decide +kernel
  rw [e1]
  omega
theorem words_18 : True := by
  (k_with "my call builtin:max" => ((k_here; (with_reducible show wpAny _ _ (call (Value.builtin "max") [Value.ref _]) _ _ _); k_dflt (refine' kso_max ?k1 ?k2 ?k3 ?k4 ?k5 ?k6 ?_; (case k1 => k_asm); (case k2 => k_asm); (case k3 => exact News.isList (by k_asm) (by k_mem)); (case k4 => with_reducible assumption); (case k5 => omega); (case k6 => exact rfl)); intro h' M' t' k' F' N' a' b')))
  (k_with "my LastEnd" => ((k_here; refine HoldC.out ?_)))
  (k_with "my EndsEnd" => ((k_here; refine HoldC.out ?_)))
  (k_with "my eval IfExp" => ((k_here; (with_reducible show wpAny _ _ (eval (Expr.IfExp _ (Expr.List _ _) _ _) _) _ _ _); (fail_if_success (with_reducible show wpAny _ _ _ (LastEnd _ _ _ _ _ _) _ _)); refine HoldC.out ?_)))
  (k_with "my eval Subscript" => ((k_here; (with_reducible show wpAny _ _ (eval (Expr.Subscript (Expr.Tuple _ _ _) _ _) _) _ _ _); (fail_if_success (with_reducible show wpAny _ _ _ (EndsEnd _ _ _ _ _) _ _)); refine HoldC.out ?_)))
  (k_with "my call builtin:str.join" => ((k_here; (with_reducible show wpAny _ _ (call (Value.builtin "str.join") [Value.str _ _, Value.ref _]) _ _ _); k_dflt (refine' join_grown ?k1 ?k2 ?k3 ?_; (case k1 => k_asm); (case k2 => k_mem); (case k3 => with_reducible assumption)); intro tj kj)))
  trivial
theorem listing_fits {total : Int} {ns : List Int} {rows : List (Option Int × Str)} {rs : List (Str × Tok)} {W : Int} {n : Nat} (h7 : W ≤ 7) (hro : RowsOf total ([8, 62, 122, 4] ++ List.take 5 ns) rows) (hl : rows.length = 4 + min 5 ns.length) (hrs : rs.map (·.1) = rows.map (rowT W)) (hn : n ≤ 1) :
    (Txt.join (Str.ofString "\n") (rs.map (·.1))).length + (Txt.mul (Str.ofString "\n") (n : Int)).length ≤ sizeLine := by
  have h1 := join_weight h7 hro hl hrs
  have h2 := StrLaws.join_length_le (Str.ofString "\n") (rs.map (·.1))
  have h3 := len_mul_leN (x := Str.ofString "\n") (n := (n : Int)) (L := 1) (N := 1) (by decide +kernel) (by omega)
  have h4 : (Txt.join (Str.ofString "\n") (rs.map (·.1))).length ≤ ((rs.map (·.1)).map (·.length)).sum + (rs.map (·.1)).length * (Str.ofString "\n").length := by
    show (Builtin.Str.glued _ _).length ≤ _
    rw [StrLaws.glued_eq_join]; exact h2
  have e : rs.length = rows.length := by have := congrArg List.length hrs; simpa using this
  have e1 : (Str.ofString "\n").length = 1 := by decide +kernel
  have b : ((rs.map (·.1)).map (·.length)).sum ≤ ((rs.map (·.1)).map (·.length)).length * 20 := by
    refine sum_le_mul fun x hx => ?_
    obtain ⟨y, hy, rfl⟩ := List.mem_map.mp hx
    exact rows_short h7 hro hl hrs hy
  rw [List.length_map, List.length_map] at b
  rw [e1, List.length_map] at h4
  rw [PySem.sizeLine_eq]
  omega
theorem words_19 : True := by
  (k_with "my binaryOp Add str str" => ((k_here; (with_reducible show wpAny _ _ (binaryOp Operator.Add (Value.str _ _) (Value.str _ _)) _ _ _); refine PyProof.Rows.add_str ?_ (by with_reducible assumption); intro t9 k9)))
  (k_with "my isTrue Compare" => ((k_here; (with_reducible show wpAny _ _ (isTrue (Expr.Compare (Expr.Call _ _ _ _) [CmpOp.NotEq] _ _) _ _) _ _ _); (fail_if_success (with_reducible show wpAny _ _ _ (TestEnd _ _ _ _ _) _ _)); refine HoldC.out ?_)))
  (k_with "my call ref" => ((k_here; (with_reducible show wpAny _ _ (call (Value.ref 131) [Value.str _ _, Value.int _ _, Value.str _ _]) _ _ _); (k_dflt (refine' letter_spec (toks := toksOf) ?k1 ?k2 ?k3 ?k4 ?k5 ?kK ?kd ?ku ?kx ?ko ?ky ?ke ?kl ?kL ?kz ?kt ?kD ?_; (case k1 => k_asm); (case k2 => k_asm); (case k3 => k_asm); (case k4 => k_asm); (case k5 => k_asm); (case kK => first | exact rfl | assumption); (case kd => ktr_room); (case ku => ktr_units); (case kx => exact LetterOk.hx (by assumption)); (case ko => exact LetterOk.hok (by assumption)); (case ky => exact LetterOk.hy (by assumption)); (case ke => exact LetterOk.hye (by assumption)); (case kl => exact LetterOk.hkl (by assumption)); (case kL => exact LetterOk.hlines (by assumption)); (case kz => exact LetterOk.hz (by assumption)); (case kt => exact LetterOk.hL (by assumption)); (case kD => exact LetterOk.hdec (by assumption)))); intro h9 tk9 vs9 D9 kk9 hi9 F9 N9; rw [LetterOk.hlen (by assumption)] at hi9; (try dsimp only))))
  (k_with "my call ref" => ((k_here; (with_reducible show wpAny _ _ (call (Value.ref 131) [Value.str _ _, Value.int 3 _, Value.str _ _]) _ _ _); (k_dflt (refine' letter3_spec ?k1 ?k2 ?k3 ?k4 ?k5 ?kK ?kd ?ku ?kx ?ko ?_; (case k1 => k_asm); (case k2 => k_asm); (case k3 => k_asm); (case k4 => k_asm); (case k5 => k_asm); (case kK => first | exact rfl | assumption); (case kd => ktr_room); (case ku => ktr_units); (case kx => assumption); (case ko => assumption))); intro h9 tk9 F9 N9; (try dsimp only))))
  (k_with "my call ref" => ((k_here; (with_reducible show wpAny _ _ (call (Value.ref 126) [Value.str _ _, Value.int _ _, Value.int _ _]) _ _ _); (k_dflt (refine' parts_spec ?k1 ?k2 ?k3 ?k4 ?k5 ?kK ?kd ?ku ?kx ?ky ?kz ?ka ?kb ?_; (case k1 => k_asm); (case k2 => k_asm); (case k3 => k_asm); (case k4 => k_asm); (case k5 => k_asm); (case kK => first | exact rfl | assumption); (case kd => ktr_room); (case ku => ktr_units); (case kx => assumption); (case ky => assumption); (case kz => assumption); (case ka => assumption); (case kb => assumption))); intro h9 tk9 vs9 D9 kk9 hi9 F9 N9 lt9; (try dsimp only))))
  (k_with "my exec Assign cons ListComp" => ((k_here; (with_reducible show wpAny _ _ (exec (Stmt.Assign _ (Expr.ListComp _ (_ :: _ :: _) _ _) _) _) _ _ _); k_dflt (refine Assign_N (by k_asm) (by rfl) (by with_unfolding_all rfl) (by with_unfolding_all rfl) (by decide) (by rfl) (by decide) (by rfl) (by rfl) (by decide) (by rfl) (by rfl) (by intro _ _; rfl) ?_))))
  (k_with "my NSrc" => ((k_here; refine HoldC.out ?_)))
  (k_with "my NTurn" => ((k_here; refine HoldC.out ?_)))
  trivial
theorem need_at {ys : List Value} {NL : List Int} {rows : List (Option Int × Str)} {W : Int} {i : Nat} {r : Option Int × Str} (h : IntsAre ys NL) (hNL : NL = (rows.map (rowT W)).map needT) (hr : rows[i]? = some r) :
    (∃ t, ys[i]? = some (.int (needT (rowT W r)) t)) ∧ needT (rowT W r) ∈ NL := by
  have e : NL[i]? = some (needT (rowT W r)) := by rw [hNL, List.getElem?_map, List.getElem?_map, hr]; rfl
  exact ⟨h.get i _ e, List.mem_of_getElem? e⟩
theorem row_at {rs : List (Str × Tok)} {rows : List (Option Int × Str)} {W : Int} {i : Nat} {r : Option Int × Str} (h : rs.map (·.1) = rows.map (rowT W)) (hr : rows[i]? = some r) : ∃ t, (strValues rs)[i]? = some (.str (rowT W r) t) :=
  str_at (by rw [h, List.getElem?_map, hr]; rfl)
set_option maxHeartbeats 16000000 in
theorem law_holds : PySem.Challenge.rw_ik0034_01.Holds := by
  w_on; refine holds_law hd.said fun said => ?_
  refine holds_open (q := hd.view_39) (loose := [Str.ofString "_QUOPRI_MAP", Str.ofString "_QUOPRI_HEADER_MAP", Str.ofString "_QUOPRI_BODY_MAP", Str.ofString "ascii_letters", Str.ofString "hexdigits", Str.ofString "_QUOPRI_BODY_ENCODE_MAP", Str.ofString "body_encode", Str.ofString "decode", Str.ofString "UNKNOWN"]) (Xt := (fun s => xlAt hd.view_39 [(Str.ofString "ascii_letters", WData.str ⟨#[97,98,99,100,101,102,103,104,105,106,107,108,109,110,111,112,113,114,115,116,117,118,119,120,121,122,65,66,67,68,69,70,71,72,73,74,75,76,77,78,79,80,81,82,83,84,85,86,87,88,89,90]⟩), (Str.ofString "hexdigits", WData.str ⟨#[48,49,50,51,52,53,54,55,56,57,97,98,99,100,101,102,65,66,67,68,69,70]⟩)] s && recOk (RowW.records PySem.Challenge.rw_ik0034_01.row.toRowW) s)) (XP := XL hd.view_39 [(Str.ofString "ascii_letters", WData.str ⟨#[97,98,99,100,101,102,103,104,105,106,107,108,109,110,111,112,113,114,115,116,117,118,119,120,121,122,65,66,67,68,69,70,71,72,73,74,75,76,77,78,79,80,81,82,83,84,85,86,87,88,89,90]⟩), (Str.ofString "hexdigits", WData.str ⟨#[48,49,50,51,52,53,54,55,56,57,97,98,99,100,101,102,65,66,67,68,69,70]⟩)]) (Yf := Hook.obs (kHook hd.heap_39 [2, 3, 6, 17, 22, 24, 31, 33, 34, 36, 37, 38, 40, 41, 43, 44, 46, 50, 51, 53, 54, 56, 57, 58, 59, 61, 62, 64, 65, 73, 75, 76, 78, 79, 80, 81, 82, 83, 84, 87, 88, 89, 91, 92, 94, 95, 96, 98, 99, 101, 102, 103, 106, 107, 108, 110, 111, 113, 114, 115, 118, 119, 120, 122, 123, 125, 126, 127, 130, 131, 132, 135, 136] (fun _ => by kernel_rfl))) (Ya := Hook.val (kHook hd.heap_39 [2, 3, 6, 17, 22, 24, 31, 33, 34, 36, 37, 38, 40, 41, 43, 44, 46, 50, 51, 53, 54, 56, 57, 58, 59, 61, 62, 64, 65, 73, 75, 76, 78, 79, 80, 81, 82, 83, 84, 87, 88, 89, 91, 92, 94, 95, 96, 98, 99, 101, 102, 103, 106, 107, 108, 110, 111, 113, 114, 115, 118, 119, 120, 122, 123, 125, 126, 127, 130, 131, 132, 135, 136] (fun _ => by kernel_rfl))) (YP := Hook.says (kHook hd.heap_39 [2, 3, 6, 17, 22, 24, 31, 33, 34, 36, 37, 38, 40, 41, 43, 44, 46, 50, 51, 53, 54, 56, 57, 58, 59, 61, 62, 64, 65, 73, 75, 76, 78, 79, 80, 81, 82, 83, 84, 87, 88, 89, 91, 92, 94, 95, 96, 98, 99, 101, 102, 103, 106, 107, 108, 110, 111, 113, 114, 115, 118, 119, 120, 122, 123, 125, 126, 127, 130, 131, 132, 135, 136] (fun _ => by kernel_rfl))) (N := 35978) hd.left (Hook.of (kHook hd.heap_39 [2, 3, 6, 17, 22, 24, 31, 33, 34, 36, 37, 38, 40, 41, 43, 44, 46, 50, 51, 53, 54, 56, 57, 58, 59, 61, 62, 64, 65, 73, 75, 76, 78, 79, 80, 81, 82, 83, 84, 87, 88, 89, 91, 92, 94, 95, 96, 98, 99, 101, 102, 103, 106, 107, 108, 110, 111, 113, 114, 115, 118, 119, 120, 122, 123, 125, 126, 127, 130, 131, 132, 135, 136] (fun _ => by kernel_rfl))) (Hook.keeps (kHook hd.heap_39 [2, 3, 6, 17, 22, 24, 31, 33, 34, 36, 37, 38, 40, 41, 43, 44, 46, 50, 51, 53, 54, 56, 57, 58, 59, 61, 62, 64, 65, 73, 75, 76, 78, 79, 80, 81, 82, 83, 84, 87, 88, 89, 91, 92, 94, 95, 96, 98, 99, 101, 102, 103, 106, 107, 108, 110, 111, 113, 114, 115, 118, 119, 120, 122, 123, 125, 126, 127, 130, 131, 132, 135, 136] (fun _ => by kernel_rfl))) (fun s e => xl_of s (Bool.and_eq_true_iff.mp e).1) XL.keeps (by rfl) (by rfl) (by rfl) (fun s e => recFacts_of (Bool.and_eq_true_iff.mp e).2) (by rfl) (by first | assumption | decide +kernel) (by decide +kernel) ⟨rfl, rfl, rfl, rfl, rfl, by decide +kernel⟩ ?hw ?hc
  case hw => w_witness2
  case hc =>
    k_go0
    all_goals (try k_fold)
    have hret : True := trivial
    k_steps
    rename List Value => its9
    rename List (Option Int × Str) => rows9
    rename List Int => scr9
    rename List (Addr × Obj) => tl9
    rename DatAll _ _ _ => hda9
    rename RowsOf _ _ _ => hro9
    rename its9.length = rows9.length => hn9
    rename its9.length ≤ 9 => hn9b
    rename 4 ≤ its9.length => hn9c
    rename IsRange _ _ _ _ _ _ _ _ => hR9
    rename News _ _ _ _ => NR9
    rename Fr _ _ _ _ => FR9
    have hcells : ∀ {j : Nat} {r : Option Int × Str}, rows9[j]? = some r → ∃ T nv t n, its9[j]? = some (.ref T) ∧ (T, tupO nv r.2 t n) ∈ tl9 ∧ NumV r.1 nv := by
      intro j r hj
      refine rows_at hda9 ?_ hj
      intro p hp
      simp only [List.mem_cons, List.not_mem_nil, or_false] at hp
      rcases hp with rfl | rfl | rfl | rfl | rfl | rfl
      all_goals exact ⟨_, by assumption⟩
    refine HoldC.mk (DSrc.range (n := its9.length) (numAt rows9) rfl FR9 NR9 hR9 (small_one (by omega) (by omega) (by omega) (by omega)) (rangeSize_nat _ _) (by rw [PySem.sizeLine_eq]; omega) ?turn ?done)
    case turn =>
      intro g i I oI C oC D oD m2 h tk t E' hi hC hx F N off ne
      obtain ⟨r, hr⟩ : ∃ r, rows9[back rows9.length i]? = some r := ⟨_, List.getElem?_eq_getElem (back_lt (hn9 ▸ hi))⟩
      obtain ⟨T, nv, tt, nn, hT1, hT2, hT3⟩ := hcells hr
      have hit := item_back (by omega) hi (hn9 ▸ hT1)
      obtain ⟨x9, hx9⟩ := row_of hro9 (by assumption) hr
      k_steps
      exact HoldC.mk (dturn_end (by assumption) (by assumption) (fun p hp => hp) ⟨⟨_, congrArg (fun z => Value.int z _) (by omega : 2 * (0 + (i : Int)) = 2 * (i : Int))⟩, by rw [numAt_of hr]; exact numV_val hT3 hx9.num⟩)
    case done =>
      intro D oD kvs h tk F N hD hlt hkl hv
      have hlo : (D == sysModules) = false := by
        have := hlt _ (List.mem_cons_of_mem _ List.mem_cons_self)
        have h2 : D ≠ 1 := by rintro rfl; revert this; simp only [Nat.lt_one_iff]; omega
        exact beq_eq_false_iff_ne.mpr h2
      k_lt hlt
      have hos9 := num_rows hro9 (by assumption) (k := its9.length) (by omega)
      k_steps
      refine HoldC.mk (comp_goP (fun i ys => ∃ ls, ys = strValues ls ∧ ls.map (·.1) = (rows9.take i).map (fun r => labelT r.1)) (fun i nv y => ∃ r, rows9[i]? = some r ∧ NumV r.1 nv ∧ y = r.2) ⟨[], rfl, rfl⟩ (Or.inr ⟨_, by k_mem, rfl, _, rfl⟩) ?srcl ?turnl ?finl)
      case srcl =>
        intro i v hi hv
        obtain ⟨r, hr⟩ : ∃ r, rows9[i]? = some r := ⟨_, List.getElem?_eq_getElem (hn9 ▸ (by simpa using hi))⟩
        obtain ⟨T, nv, tt, nn, hT1, hT2, hT3⟩ := hcells hr
        have hv2 : its9[i]? = some v := by simpa using hv
        rw [hT1] at hv2
        cases hv2
        exact ⟨T, nv, r.2, tt, nn, rfl, by ((repeat (refine List.mem_cons_of_mem _ ?_)); assumption), r, hr, hT3, rfl⟩
      case turnl =>
        intro i nv y t ys I oI C oC D m₂ h tk E' hi hr hy hC hx hx2 F N off ne
        obtain ⟨r, hr, hnv, rfl⟩ := hr
        obtain ⟨ls, rfl, hls⟩ := hy
        obtain ⟨x9, hx9⟩ := row_of hro9 (by assumption) hr
        obtain ⟨num, txt⟩ := r
        cases num with
        | none =>
          cases hnv
          k_steps
          exact HoldC.mk (turn_end (by assumption) (by assumption) (fun p hp => hp) ⟨ls ++ [(_, _)], strs_snoc, labels_snoc hls hr⟩)
        | some q =>
          obtain ⟨tq, rfl⟩ := hnv
          have hq := hx9.num q rfl
          k_steps
          exact HoldC.mk (turn_end (by assumption) (by assumption) (fun p hp => hp) ⟨ls ++ [(_, _)], strs_snoc, labels_snoc hls hr⟩)
      case finl => 
        intro ys hy
        obtain ⟨ls, rfl, hls⟩ := hy
        have hls2 : ls.map (·.1) = rows9.map (fun r => labelT r.1) := by rw [hls, List.take_of_length_le (by rw [List.size_toArray]; omega)]
        have hlsn : ls.length = rows9.length := by have := congrArg List.length hls2; simpa using this
        have hlsz : (strValues ls).toArray.size ≤ sizeLine := by rw [List.size_toArray, PySem.sizeLine_eq]; unfold strValues; rw [List.length_map]; omega
        k_steps
        rename News _ _ _ _ => NT
        rename Fr _ _ _ _ => FT
        refine HoldC.mk (test_join FT NT ?test ?rest)
        case test =>
          k_steps
          · refine HoldC.mk (test_end ?_ (by assumption) (by assumption) (fun p hp => hp))
            rw [width_none (fun o => hn9 ▸ numAt_mem o) (by assumption) (bare_rows hro9 (by assumption) (by assumption))]
            rfl
          · refine HoldC.mk (comp_go (fun i ys => IntsAre ys (((ls.map (·.1)).take i).map fun y => (y.length : Int))) .nil (Or.inr ⟨_, by k_mem, rfl, _, rfl⟩) ?turn ?fin)
            case turn =>
              intro i v ys I oI C oC D m₂ h tk E' hi hv hy hC hx F N off ne
              obtain ⟨y1, t1, rfl, hm, hend⟩ := lens_inv hv hy (f := fun y => (y.length : Int))
              have hs1 : y1.length ≤ 7 := lab_short hro9 (by assumption) hls2 hm
              k_steps
              exact HoldC.mk (turn_end (by assumption) (by assumption) (fun p hp => hp) (hend _))
            case fin =>
              intro ys hy
              k_steps
              refine HoldC.mk (test_end ?_ (by assumption) (by assumption) (fun p hp => by repeat (first | exact hp | refine List.mem_cons_of_mem _ ?_)))
              rename _ ∈ _ ++ _ => hM1
              rename ∀ _, _ → _ ≤ _ => hM2
              rw [List.take_of_length_le (by rw [List.size_toArray]; unfold strValues; simp), hls2] at hM1 hM2
              rw [width_eq (fun o => hn9 ▸ numAt_mem o) (rows_pos hro9 (by assumption)) (by assumption) (first_row hro9 (by assumption) (by assumption)) hM1 hM2]
              simp
        case rest =>
          intro h1 tk1 F1 N1
          have hWb := width_bound (by assumption) hos9
          generalize hWe : widthT _ _ = W at *
          obtain ⟨hW0, hW7⟩ := hWb
          k_steps
          refine HoldC.mk (comp_go (fun i ys => ∃ rs : List (Str × Tok), ys = strValues rs ∧ rs.map (·.1) = (rows9.take i).map (rowT W)) ⟨[], rfl, rfl⟩ trivial ?turnr ?finr)
          case turnr =>
            intro i v ys I oI C oC D2 m₂ h tk E' hi hv hy hC hx F N off ne
            obtain ⟨k1, rfl⟩ := hv
            obtain ⟨rs, rfl, hrs⟩ := hy
            obtain ⟨r, hr⟩ : ∃ r, rows9[i]? = some r := ⟨_, List.getElem?_eq_getElem (hn9 ▸ hi)⟩
            obtain ⟨T, nv, tt, nn, hT1, hT2, hT3⟩ := hcells hr
            have hit := item_fore (by omega) hT1
            obtain ⟨tlab, hlab⟩ := lab_at hls2 hr
            have hitl := item_fore (by unfold strValues; rw [List.length_map]; omega) hlab
            have hr7 := (label_len (rows_pos hro9 (by assumption) r (List.mem_of_getElem? hr))).2
            have hr5 := (text_len hro9 (by assumption) r (List.mem_of_getElem? hr)).1
            k_steps
            exact HoldC.mk (turn_end (by assumption) (by assumption) (fun p hp => hp) ⟨rs ++ [(_, _)], strs_snoc, rows_snocT hrs hr⟩)
          case finr =>
            intro ys hy
            obtain ⟨rs, rfl, hrs⟩ := hy
            obtain ⟨hrs2, hrsn⟩ := take_whole hrs hn9
            obtain ⟨hrsz, hrsz2⟩ := strs_size hrsn (by omega)
            k_steps
            refine HoldC.mk (comp_go (fun i ys => IntsAre ys (((rs.map (·.1)).take i).map needT)) .nil (Or.inr ⟨_, by k_mem, rfl, _, rfl⟩) ?turnn ?finn)
            case turnn =>
              intro i v ys I oI C oC D m₂ h tk E' hi hv hy hC hx F N off ne
              obtain ⟨y1, t1, rfl, hm, hend⟩ := lens_inv hv hy (f := needT)
              have hs1 : y1.length ≤ 1000 := Nat.le_trans (rows_short hW7 hro9 (by assumption) hrs2 hm) (by omega)
              k_steps
              all_goals (refine HoldC.mk (turn_end (by assumption) (by assumption) (fun p hp => by repeat (first | exact hp | refine List.mem_cons_of_mem _ ?_)) ?_))
              all_goals (have hend := hend; unfold needT at hend)
              · rw [if_pos (by assumption)] at hend; exact hend _
              · rw [if_neg (by rename _ = false => hF; rw [hF]; decide)] at hend; exact hend _
            case finn =>
              intro ys hy
              obtain ⟨NL, hNL⟩ : ∃ NL, NL = (rows9.map (rowT W)).map needT := ⟨_, rfl⟩
              have hy2 : IntsAre ys NL := by rw [hNL, ← hrs2]; rw [List.take_of_length_le (by rw [List.size_toArray]; unfold strValues; simp)] at hy; exact hy
              clear hy
              have hNl : NL.length = rows9.length := by rw [hNL]; simp
              have hNl0 : 0 < NL.length := by omega
              have hjw := join_weight hW7 hro9 (by assumption) hrs2
              k_steps
              rename _ ∈ NL => hmx1
              rename ∀ _, _ ∈ NL → _ ≤ _ => hmx2
              rename Int => mx9
              rename News _ _ _ _ => NT
              rename Fr _ _ _ _ => FT
              refine HoldC.mk (last_join (lastT scr9.sum) FT NT ?last ?rest2)
              case last =>
                k_steps
                · have h9 : lastT scr9.sum = [0] := if_pos (by assumption)
                  refine HoldC.mk (last_end (by assumption) (by assumption) (lt_of_all (by assumption)) ?_)
                  rw [h9]
                  exact .cons _ _ .nil
                · have h9 : lastT scr9.sum = [] := if_neg (by assumption)
                  refine HoldC.mk (last_end (by assumption) (by assumption) (lt_of_all (by assumption)) ?_)
                  rw [h9]
                  exact .nil
              case rest2 =>
                intro Dl vsl nl h2 tk2 F2 N2 ltl hil
                k_lt ltl
                have hvl : vsl.length ≤ 1 := by rw [hil.length]; exact last_len _
                have hll : (lastT scr9.sum).length ≤ 1 := last_len _
                have hnl9 : NL.length ≤ 9 := by omega
                have hadd := listing_fits hW7 hro9 (by assumption) hrs2 hvl
                k_steps
                have hrin := rows_in (W := W) hro9 (by assumption) ⟨hW0, hW7⟩ hNL hmx2
                generalize hxe : Txt.join _ _ ++ Txt.mul _ _ = xL at *
                rename News _ _ _ _ => NT
                rename Fr _ _ _ _ => FT
                refine HoldC.mk (ends_join FT NT ?ends ?rest3)
                case ends =>
                  k_steps
                  rename News _ _ _ _ => NE
                  rename Fr _ _ _ _ => FE
                  refine' HoldC.mk (ends_pick NE List.mem_cons_self ?e0 ?e1 ?e2 ?es)
                  case es => intro k; with_unfolding_all rfl
                  case e0 => exact ends_end FE NE (fun p hp => List.mem_cons_of_mem _ hp) (.inl rfl)
                  case e1 => exact ends_end FE NE (fun p hp => List.mem_cons_of_mem _ hp) (.inr (.inl rfl))
                  case e2 => exact ends_end FE NE (fun p hp => List.mem_cons_of_mem _ hp) (.inr (.inr rfl))
                case rest3 =>
                  intro ye te h3 tk3 F3 N3 hye
                  k_steps
                  rename News _ _ _ _ => NT
                  rename Fr _ _ _ _ => FT
                  refine HoldC.mk (test_join FT NT ?test2 ?rest4)
                  case test2 =>
                    have hok9 : LetterOk xL ye mx9 (NL ++ lastT scr9.sum) := law_letter_most hrin hNL hmx1 hrs2 hil hxe hye
                    k_steps
                    refine HoldC.mk (test_end ?_ (by assumption) (by assumption) (fun p hp => by repeat (first | exact hp | refine List.mem_cons_of_mem _ ?_)))
                    simp
                  case rest4 =>
                    intro h4 tk4 F4 N4
                    k_steps
                    rename News _ _ _ _ => NP
                    rename Fr _ _ _ _ => FP
                    rename IsRange _ _ _ _ _ _ _ _ => hRP
                    refine HoldC.mk (NSrc.range (n := (strValues rs).length) (partsAt rows9 W mx9) rfl FP NP hRP (small_one (by omega) (by omega) (by omega) (by omega)) (rangeSize_nat _ _) (by omega) (fun i _ => partsAt_two _ _ _ i) ?turnp ?donep)
                    case turnp =>
                      intro g i ys3 I oI C oC D2 m₂ h tk t E' hi hC hx F N off ne
                      obtain ⟨r, hr⟩ : ∃ r, rows9[i]? = some r := ⟨_, List.getElem?_eq_getElem (by unfold strValues at hi; rw [List.length_map] at hi; omega)⟩
                      obtain ⟨⟨tn, hnd⟩, hmn⟩ := need_at hy2 hNL hr
                      obtain ⟨trw, hrw⟩ := row_at hrs2 hr
                      have hit1 := item_fore (by omega) hrw
                      have hit2 := item_fore (by rw [hy2.length]; omega) hnd
                      obtain ⟨hp1, hp2, hp4, hp5⟩ := row_facts hrin hNL hmx1 (by assumption) (List.mem_of_getElem? hr)
                      have hp3 : needT (rowT W r) ≤ mx9 := hmx2 _ hmn
                      k_steps
                      rename News _ _ _ _ => NP2
                      rename Fr _ _ _ _ => FP2
                      rename IntsAre _ (partsT _ _ _) => hi9
                      exact HoldC.mk (nturn_end FP2 NP2 (by assumption) (by rw [partsAt_of hr]; exact hi9))
                    case donep =>
                      intro Dp ysp h5 tk5 F5 N5 ltp hip
                      have hok8 : LetterOk xL ye (mx9 - 1) ((List.range (strValues rs).length).flatMap (partsAt rows9 W mx9) ++ lastT scr9.sum) := law_letter_less hrin hNL hmx1 (by assumption) (by unfold strValues; rw [List.length_map]; omega) hrs2 hil hxe hye
                      have hPl : ((List.range (strValues rs).length).flatMap (partsAt rows9 W mx9)).length ≤ 18 := by
                        refine Nat.le_trans (flat_two (n := (strValues rs).length) (fun i _ => partsAt_two _ _ _ i) _ (Nat.le_refl _)) ?_
                        unfold strValues
                        rw [List.length_map]; omega
                      generalize (List.range (strValues rs).length).flatMap (partsAt rows9 W mx9) = PL at *
                      k_lt ltp
                      k_steps
end TextL1
end Mine
theorem PySem.Challenge.cw_ik0034_01_holds : PySem.Challenge.rw_ik0034_01.Holds :=
  Mine.law_holds
