import Derived.Test.Qxb6612688aModsSymA
import Derived.WalkKit
import Derived.Below
import Derived.RegionTactic
import Derived.Deep.QuietTactic
import Derived.BigQuiet
import Derived.WalkSpells
import Derived.WalkLawsBesides
namespace Go.Proofs.Qxb6612688aMods.Join.Sym
open Go.RowKit
set_option linter.unusedVariables false
set_option linter.unusedSimpArgs false

set_option maxRecDepth 100000 in
set_option maxHeartbeats 2000000 in
theorem law4_ffff (pt pa qt qa pf pg qf qg : ByteArray) (pl pc pm pn ql qc qm qn : Int) (w : World) (t0 : decide (131072 < (pt.size : Int)) = false) (t1 : decide (131072 < (pa.size : Int)) = false) (t2 : decide (131072 < (pf.size : Int)) = false) (t3 : decide (131072 < (pg.size : Int)) = false) (t4 : decide (131072 < (qt.size : Int)) = false) (t5 : decide (131072 < (qa.size : Int)) = false) (t6 : decide (131072 < (qf.size : Int)) = false) (t7 : decide (131072 < (qg.size : Int)) = false) (n0 : pt.toList.isEmpty = false) (n1 : pa.toList.isEmpty = false) (n2 : qt.toList.isEmpty = false) (n3 : qa.toList.isEmpty = false) :
    Calls Trym.prog 4 #[.agg #[.string pt, .string pa, .string pf, .int .i64 pl, .int .i64 pc, .string pg, .int .i64 pm, .int .i64 pn], .agg #[.string qt, .string qa, .string qf, .int .i64 ql, .int .i64 qc, .string qg, .int .i64 qm, .int .i64 qn]] w fun e w' => e = .returned (.bool true) ∧ Below w.heap.size w w' := by
  go_enter Trym.func4, Trym.ntmps4
  go_wp2_with fail
  refine (bytes9 pt pa pf pg qt qa qf qg pl pc pm pn ql qc qm qn _).mono ?_
  rintro e w1 ⟨b, rfl, hb⟩
  have p1 := fun i => hb.cell (p := ⟨w.heap.size, i, none⟩) (by simp; omega)
  have q1 := fun i => hb.cell (p := ⟨w.heap.size + 1, i, none⟩) (by simp)
  simp [go_sem] at p1 q1
  have z1 : w.heap.size + 1 < w1.heap.size := by have := hb.size; simp at this; omega
  have z1' : w.heap.size < w1.heap.size := by omega
  have B1 : Below w.heap.size w w1 := Below.trans (((Below.refl _ _).alloc (Nat.le_refl _) _).alloc (by simp) _) (hb.mono (by simp; omega))
  clear hb
  cases b
  · go_wp2
    go_ret
    exact ⟨rfl, B1⟩
  · go_wp2_with fail
    refine (run10_tag pt pa pf pg qt qa qf qg pl pc pm pn ql qc qm qn _ n0 n2).mono ?_
    rintro e w2 ⟨E1, rfl, e1, y1, x1, hb⟩
    have p2 := fun i => hb.cell (p := ⟨w.heap.size, i, none⟩) (by dsimp only; omega)
    have q2 := fun i => hb.cell (p := ⟨w.heap.size + 1, i, none⟩) (by dsimp only; omega)
    simp only [p1, q1] at p2 q2
    have z2 : w.heap.size + 1 < w2.heap.size := by have := hb.size; omega
    have z2' : w.heap.size < w2.heap.size := by omega
    have B2 : Below w.heap.size w w2 := B1.trans (hb.mono (by omega))
    clear hb p1 q1 B1 y1
    go_wp2_with fail
    refine (run10_tag qt qa qf qg pt pa pf pg ql qc qm qn pl pc pm pn _ n2 n0).mono ?_
    rintro e w3 ⟨E2, rfl, e2, y2, x2, hb⟩
    have p3 := fun i => hb.cell (p := ⟨w.heap.size, i, none⟩) (by simp; omega)
    have q3 := fun i => hb.cell (p := ⟨w.heap.size + 1, i, none⟩) (by simp; omega)
    have f3 := fun i => hb.cell (p := ⟨w2.heap.size, i, none⟩) (by simp)
    simp [go_sem, z2, z2', p2, q2] at p3 q3 f3
    have z3 : w.heap.size + 1 < w3.heap.size := by have := hb.size; simp at this; omega
    have z3' : w.heap.size < w3.heap.size := by omega
    have z3'' : w2.heap.size < w3.heap.size := by have := hb.size; simp at this; omega
    have B3 : Below w.heap.size w w3 := B2.trans (Below.trans ((Below.refl _ _).alloc (Nat.le_refl _) _) (hb.mono (by simp)) |>.mono (by omega))
    have x1' : E1 < w3.heap.size := by have := hb.size; simp at this; omega
    have e1' := err_keep (err_alloc e1 x1 _) (by simp; omega) hb
    clear hb p2 q2 B2 y2 e1
    have s1 : w.heap.size + 1 < w3.heap.size + 1 := by omega
    have s2 : w.heap.size + 1 < w3.heap.size + 1 + 1 := by omega
    have s3 : w.heap.size < w3.heap.size + 1 := by omega
    have s4 : w.heap.size < w3.heap.size + 1 + 1 := by omega
    have s5 : w2.heap.size < w3.heap.size + 1 := by omega
    have s6 : w2.heap.size < w3.heap.size + 1 + 1 := by omega
    have s7 : w3.heap.size < w3.heap.size + 1 + 1 := by omega
    go_wp2_with fail
    refine (fault11 E1 qf ql qc _ (err_alloc (err_alloc (err_alloc e1' x1' _) (by simp; omega) _) (by simp; omega) _)).mono ?_
    rintro e w4 ⟨rfl, hb⟩
    have p4 := fun i => hb.cell (p := ⟨w.heap.size, i, none⟩) (by simp; omega)
    have q4 := fun i => hb.cell (p := ⟨w.heap.size + 1, i, none⟩) (by simp; omega)
    have f4 := fun i => hb.cell (p := ⟨w2.heap.size, i, none⟩) (by simp; omega)
    have g4 := fun i => hb.cell (p := ⟨w3.heap.size, i, none⟩) (by simp; omega)
    have h4 := fun i => hb.cell (p := ⟨w3.heap.size + 1 + 1, i, none⟩) (by simp)
    simp [go_sem, z3, z3', z3'', s1, s2, s3, s4, s5, s6, s7, p3, q3, f3] at p4 q4 f4 g4 h4
    have B4 : Below w.heap.size w w4 := B3.trans (Below.trans ((((Below.refl _ _).alloc (Nat.le_refl _) _).alloc (by simp) _).alloc (by simp; omega) _) (hb.mono (by simp; omega)) |>.mono (by omega))
    have e2' := err_keep (err_alloc (err_alloc (err_alloc e2 x2 _) (by simp; omega) _) (by simp; omega) _) (by simp; omega) hb
    have z4 : w3.heap.size < w4.heap.size := by have := hb.size; simp at this; omega
    clear hb p3 q3 f3 B3 e1' e2
    go_wp2_with fail
    refine (fault11 E2 pf pl pc _ e2').mono ?_
    rintro e w5 ⟨rfl, hb⟩
    have p5 := fun i => hb.cell (p := ⟨w.heap.size, i, none⟩) (by dsimp only; omega)
    have q5 := fun i => hb.cell (p := ⟨w.heap.size + 1, i, none⟩) (by dsimp only; omega)
    have f5 := fun i => hb.cell (p := ⟨w2.heap.size, i, none⟩) (by dsimp only; omega)
    have g5 := fun i => hb.cell (p := ⟨w3.heap.size, i, none⟩) (by dsimp only; omega)
    simp only [p4, q4, f4, g4] at p5 q5 f5 g5
    have B5 : Below w.heap.size w w5 := B4.trans (hb.mono (by omega))
    clear hb p4 q4 f4 g4 h4 B4 e2'
    go_wp2
    go_ret
    exact ⟨rfl, B5⟩


set_option maxRecDepth 100000 in
set_option maxHeartbeats 2000000 in
theorem law4_fffe (pt pa qt pf pg qf qg : ByteArray) (pl pc pm pn ql qc qm qn : Int) (w : World) (t0 : decide (131072 < (pt.size : Int)) = false) (t1 : decide (131072 < (pa.size : Int)) = false) (t2 : decide (131072 < (pf.size : Int)) = false) (t3 : decide (131072 < (pg.size : Int)) = false) (t4 : decide (131072 < (qt.size : Int)) = false) (t5 : decide (131072 < (qf.size : Int)) = false) (t6 : decide (131072 < (qg.size : Int)) = false) (n0 : pt.toList.isEmpty = false) (n1 : pa.toList.isEmpty = false) (n2 : qt.toList.isEmpty = false) :
    Calls Trym.prog 4 #[.agg #[.string pt, .string pa, .string pf, .int .i64 pl, .int .i64 pc, .string pg, .int .i64 pm, .int .i64 pn], .agg #[.string qt, .string { data := #[] }, .string qf, .int .i64 ql, .int .i64 qc, .string qg, .int .i64 qm, .int .i64 qn]] w fun e w' => e = .returned (.bool true) ∧ Below w.heap.size w w' := by
  have hE := emp_nil
  go_enter Trym.func4, Trym.ntmps4
  go_wp2_with fail
  refine (bytes9 pt pa pf pg qt { data := #[] } qf qg pl pc pm pn ql qc qm qn _).mono ?_
  rintro e w1 ⟨b, rfl, hb⟩
  have p1 := fun i => hb.cell (p := ⟨w.heap.size, i, none⟩) (by simp; omega)
  have q1 := fun i => hb.cell (p := ⟨w.heap.size + 1, i, none⟩) (by simp)
  simp [go_sem] at p1 q1
  have z1 : w.heap.size + 1 < w1.heap.size := by have := hb.size; simp at this; omega
  have z1' : w.heap.size < w1.heap.size := by omega
  have B1 : Below w.heap.size w w1 := Below.trans (((Below.refl _ _).alloc (Nat.le_refl _) _).alloc (by simp) _) (hb.mono (by simp; omega))
  clear hb
  cases b
  · go_wp2
    go_ret
    exact ⟨rfl, B1⟩
  · go_wp2_with fail
    refine (run10_tag pt pa pf pg qt { data := #[] } qf qg pl pc pm pn ql qc qm qn _ n0 n2).mono ?_
    rintro e w2 ⟨E1, rfl, e1, y1, x1, hb⟩
    have p2 := fun i => hb.cell (p := ⟨w.heap.size, i, none⟩) (by dsimp only; omega)
    have q2 := fun i => hb.cell (p := ⟨w.heap.size + 1, i, none⟩) (by dsimp only; omega)
    simp only [p1, q1] at p2 q2
    have z2 : w.heap.size + 1 < w2.heap.size := by have := hb.size; omega
    have z2' : w.heap.size < w2.heap.size := by omega
    have B2 : Below w.heap.size w w2 := B1.trans (hb.mono (by omega))
    clear hb p1 q1 B1 y1
    go_wp2_with fail
    refine (run10_tag qt { data := #[] } qf qg pt pa pf pg ql qc qm qn pl pc pm pn _ n2 n0).mono ?_
    rintro e w3 ⟨E2, rfl, e2, y2, x2, hb⟩
    have p3 := fun i => hb.cell (p := ⟨w.heap.size, i, none⟩) (by simp; omega)
    have q3 := fun i => hb.cell (p := ⟨w.heap.size + 1, i, none⟩) (by simp; omega)
    have f3 := fun i => hb.cell (p := ⟨w2.heap.size, i, none⟩) (by simp)
    simp [go_sem, z2, z2', p2, q2] at p3 q3 f3
    have z3 : w.heap.size + 1 < w3.heap.size := by have := hb.size; simp at this; omega
    have z3' : w.heap.size < w3.heap.size := by omega
    have z3'' : w2.heap.size < w3.heap.size := by have := hb.size; simp at this; omega
    have B3 : Below w.heap.size w w3 := B2.trans (Below.trans ((Below.refl _ _).alloc (Nat.le_refl _) _) (hb.mono (by simp)) |>.mono (by omega))
    have x1' : E1 < w3.heap.size := by have := hb.size; simp at this; omega
    have e1' := err_keep (err_alloc e1 x1 _) (by simp; omega) hb
    clear hb p2 q2 B2 y2 e1
    have s1 : w.heap.size + 1 < w3.heap.size + 1 := by omega
    have s2 : w.heap.size + 1 < w3.heap.size + 1 + 1 := by omega
    have s3 : w.heap.size < w3.heap.size + 1 := by omega
    have s4 : w.heap.size < w3.heap.size + 1 + 1 := by omega
    have s5 : w2.heap.size < w3.heap.size + 1 := by omega
    have s6 : w2.heap.size < w3.heap.size + 1 + 1 := by omega
    have s7 : w3.heap.size < w3.heap.size + 1 + 1 := by omega
    go_wp2_with fail
    refine (fault11 E1 qf ql qc _ (err_alloc (err_alloc (err_alloc e1' x1' _) (by simp; omega) _) (by simp; omega) _)).mono ?_
    rintro e w4 ⟨rfl, hb⟩
    have p4 := fun i => hb.cell (p := ⟨w.heap.size, i, none⟩) (by simp; omega)
    have q4 := fun i => hb.cell (p := ⟨w.heap.size + 1, i, none⟩) (by simp; omega)
    have f4 := fun i => hb.cell (p := ⟨w2.heap.size, i, none⟩) (by simp; omega)
    have g4 := fun i => hb.cell (p := ⟨w3.heap.size, i, none⟩) (by simp; omega)
    have h4 := fun i => hb.cell (p := ⟨w3.heap.size + 1 + 1, i, none⟩) (by simp)
    simp [go_sem, z3, z3', z3'', s1, s2, s3, s4, s5, s6, s7, p3, q3, f3] at p4 q4 f4 g4 h4
    have B4 : Below w.heap.size w w4 := B3.trans (Below.trans ((((Below.refl _ _).alloc (Nat.le_refl _) _).alloc (by simp) _).alloc (by simp; omega) _) (hb.mono (by simp; omega)) |>.mono (by omega))
    have e2' := err_keep (err_alloc (err_alloc (err_alloc e2 x2 _) (by simp; omega) _) (by simp; omega) _) (by simp; omega) hb
    have z4 : w3.heap.size < w4.heap.size := by have := hb.size; simp at this; omega
    clear hb p3 q3 f3 B3 e1' e2
    go_wp2_with fail
    refine (fault11 E2 pf pl pc _ e2').mono ?_
    rintro e w5 ⟨rfl, hb⟩
    have p5 := fun i => hb.cell (p := ⟨w.heap.size, i, none⟩) (by dsimp only; omega)
    have q5 := fun i => hb.cell (p := ⟨w.heap.size + 1, i, none⟩) (by dsimp only; omega)
    have f5 := fun i => hb.cell (p := ⟨w2.heap.size, i, none⟩) (by dsimp only; omega)
    have g5 := fun i => hb.cell (p := ⟨w3.heap.size, i, none⟩) (by dsimp only; omega)
    simp only [p4, q4, f4, g4] at p5 q5 f5 g5
    have B5 : Below w.heap.size w w5 := B4.trans (hb.mono (by omega))
    clear hb p4 q4 f4 g4 h4 B4 e2'
    go_wp2
    go_ret
    exact ⟨rfl, B5⟩


set_option maxRecDepth 100000 in
set_option maxHeartbeats 2000000 in
theorem law4_ffef (pt pa qa pf pg qf qg : ByteArray) (pl pc pm pn ql qc qm qn : Int) (w : World) (t0 : decide (131072 < (pt.size : Int)) = false) (t1 : decide (131072 < (pa.size : Int)) = false) (t2 : decide (131072 < (pf.size : Int)) = false) (t3 : decide (131072 < (pg.size : Int)) = false) (t4 : decide (131072 < (qa.size : Int)) = false) (t5 : decide (131072 < (qf.size : Int)) = false) (t6 : decide (131072 < (qg.size : Int)) = false) (n0 : pt.toList.isEmpty = false) (n1 : pa.toList.isEmpty = false) (n3 : qa.toList.isEmpty = false) :
    Calls Trym.prog 4 #[.agg #[.string pt, .string pa, .string pf, .int .i64 pl, .int .i64 pc, .string pg, .int .i64 pm, .int .i64 pn], .agg #[.string { data := #[] }, .string qa, .string qf, .int .i64 ql, .int .i64 qc, .string qg, .int .i64 qm, .int .i64 qn]] w fun e w' => e = .returned (.bool true) ∧ Below w.heap.size w w' := by
  have hE := emp_nil
  go_enter Trym.func4, Trym.ntmps4
  go_wp2_with fail
  refine (bytes9 pt pa pf pg { data := #[] } qa qf qg pl pc pm pn ql qc qm qn _).mono ?_
  rintro e w1 ⟨b, rfl, hb⟩
  have p1 := fun i => hb.cell (p := ⟨w.heap.size, i, none⟩) (by simp; omega)
  have q1 := fun i => hb.cell (p := ⟨w.heap.size + 1, i, none⟩) (by simp)
  simp [go_sem] at p1 q1
  have z1 : w.heap.size + 1 < w1.heap.size := by have := hb.size; simp at this; omega
  have z1' : w.heap.size < w1.heap.size := by omega
  have B1 : Below w.heap.size w w1 := Below.trans (((Below.refl _ _).alloc (Nat.le_refl _) _).alloc (by simp) _) (hb.mono (by simp; omega))
  clear hb
  cases b
  · go_wp2
    go_ret
    exact ⟨rfl, B1⟩
  · go_wp2_with fail
    refine (run10_anchor pt pa pf pg { data := #[] } qa qf qg pl pc pm pn ql qc qm qn _ (.inr emp_nil) n1 n3).mono ?_
    rintro e w2 ⟨E1, rfl, e1, y1, x1, hb⟩
    have p2 := fun i => hb.cell (p := ⟨w.heap.size, i, none⟩) (by dsimp only; omega)
    have q2 := fun i => hb.cell (p := ⟨w.heap.size + 1, i, none⟩) (by dsimp only; omega)
    simp only [p1, q1] at p2 q2
    have z2 : w.heap.size + 1 < w2.heap.size := by have := hb.size; omega
    have z2' : w.heap.size < w2.heap.size := by omega
    have B2 : Below w.heap.size w w2 := B1.trans (hb.mono (by omega))
    clear hb p1 q1 B1 y1
    go_wp2_with fail
    refine (run10_anchor { data := #[] } qa qf qg pt pa pf pg ql qc qm qn pl pc pm pn _ (.inl emp_nil) n3 n1).mono ?_
    rintro e w3 ⟨E2, rfl, e2, y2, x2, hb⟩
    have p3 := fun i => hb.cell (p := ⟨w.heap.size, i, none⟩) (by simp; omega)
    have q3 := fun i => hb.cell (p := ⟨w.heap.size + 1, i, none⟩) (by simp; omega)
    have f3 := fun i => hb.cell (p := ⟨w2.heap.size, i, none⟩) (by simp)
    simp [go_sem, z2, z2', p2, q2] at p3 q3 f3
    have z3 : w.heap.size + 1 < w3.heap.size := by have := hb.size; simp at this; omega
    have z3' : w.heap.size < w3.heap.size := by omega
    have z3'' : w2.heap.size < w3.heap.size := by have := hb.size; simp at this; omega
    have B3 : Below w.heap.size w w3 := B2.trans (Below.trans ((Below.refl _ _).alloc (Nat.le_refl _) _) (hb.mono (by simp)) |>.mono (by omega))
    have x1' : E1 < w3.heap.size := by have := hb.size; simp at this; omega
    have e1' := err_keep (err_alloc e1 x1 _) (by simp; omega) hb
    clear hb p2 q2 B2 y2 e1
    have s1 : w.heap.size + 1 < w3.heap.size + 1 := by omega
    have s2 : w.heap.size + 1 < w3.heap.size + 1 + 1 := by omega
    have s3 : w.heap.size < w3.heap.size + 1 := by omega
    have s4 : w.heap.size < w3.heap.size + 1 + 1 := by omega
    have s5 : w2.heap.size < w3.heap.size + 1 := by omega
    have s6 : w2.heap.size < w3.heap.size + 1 + 1 := by omega
    have s7 : w3.heap.size < w3.heap.size + 1 + 1 := by omega
    go_wp2_with fail
    refine (fault11 E1 qg qm qn _ (err_alloc (err_alloc (err_alloc e1' x1' _) (by simp; omega) _) (by simp; omega) _)).mono ?_
    rintro e w4 ⟨rfl, hb⟩
    have p4 := fun i => hb.cell (p := ⟨w.heap.size, i, none⟩) (by simp; omega)
    have q4 := fun i => hb.cell (p := ⟨w.heap.size + 1, i, none⟩) (by simp; omega)
    have f4 := fun i => hb.cell (p := ⟨w2.heap.size, i, none⟩) (by simp; omega)
    have g4 := fun i => hb.cell (p := ⟨w3.heap.size, i, none⟩) (by simp; omega)
    have h4 := fun i => hb.cell (p := ⟨w3.heap.size + 1 + 1, i, none⟩) (by simp)
    simp [go_sem, z3, z3', z3'', s1, s2, s3, s4, s5, s6, s7, p3, q3, f3] at p4 q4 f4 g4 h4
    have B4 : Below w.heap.size w w4 := B3.trans (Below.trans ((((Below.refl _ _).alloc (Nat.le_refl _) _).alloc (by simp) _).alloc (by simp; omega) _) (hb.mono (by simp; omega)) |>.mono (by omega))
    have e2' := err_keep (err_alloc (err_alloc (err_alloc e2 x2 _) (by simp; omega) _) (by simp; omega) _) (by simp; omega) hb
    have z4 : w3.heap.size < w4.heap.size := by have := hb.size; simp at this; omega
    clear hb p3 q3 f3 B3 e1' e2
    go_wp2_with fail
    refine (fault11 E2 pg pm pn _ e2').mono ?_
    rintro e w5 ⟨rfl, hb⟩
    have p5 := fun i => hb.cell (p := ⟨w.heap.size, i, none⟩) (by dsimp only; omega)
    have q5 := fun i => hb.cell (p := ⟨w.heap.size + 1, i, none⟩) (by dsimp only; omega)
    have f5 := fun i => hb.cell (p := ⟨w2.heap.size, i, none⟩) (by dsimp only; omega)
    have g5 := fun i => hb.cell (p := ⟨w3.heap.size, i, none⟩) (by dsimp only; omega)
    simp only [p4, q4, f4, g4] at p5 q5 f5 g5
    have B5 : Below w.heap.size w w5 := B4.trans (hb.mono (by omega))
    clear hb p4 q4 f4 g4 h4 B4 e2'
    go_wp2
    go_ret
    exact ⟨rfl, B5⟩


set_option maxRecDepth 100000 in
set_option maxHeartbeats 2000000 in
theorem law4_feff (pt qt qa pf pg qf qg : ByteArray) (pl pc pm pn ql qc qm qn : Int) (w : World) (t0 : decide (131072 < (pt.size : Int)) = false) (t1 : decide (131072 < (pf.size : Int)) = false) (t2 : decide (131072 < (pg.size : Int)) = false) (t3 : decide (131072 < (qt.size : Int)) = false) (t4 : decide (131072 < (qa.size : Int)) = false) (t5 : decide (131072 < (qf.size : Int)) = false) (t6 : decide (131072 < (qg.size : Int)) = false) (n0 : pt.toList.isEmpty = false) (n2 : qt.toList.isEmpty = false) (n3 : qa.toList.isEmpty = false) :
    Calls Trym.prog 4 #[.agg #[.string pt, .string { data := #[] }, .string pf, .int .i64 pl, .int .i64 pc, .string pg, .int .i64 pm, .int .i64 pn], .agg #[.string qt, .string qa, .string qf, .int .i64 ql, .int .i64 qc, .string qg, .int .i64 qm, .int .i64 qn]] w fun e w' => e = .returned (.bool true) ∧ Below w.heap.size w w' := by
  have hE := emp_nil
  go_enter Trym.func4, Trym.ntmps4
  go_wp2_with fail
  refine (bytes9 pt { data := #[] } pf pg qt qa qf qg pl pc pm pn ql qc qm qn _).mono ?_
  rintro e w1 ⟨b, rfl, hb⟩
  have p1 := fun i => hb.cell (p := ⟨w.heap.size, i, none⟩) (by simp; omega)
  have q1 := fun i => hb.cell (p := ⟨w.heap.size + 1, i, none⟩) (by simp)
  simp [go_sem] at p1 q1
  have z1 : w.heap.size + 1 < w1.heap.size := by have := hb.size; simp at this; omega
  have z1' : w.heap.size < w1.heap.size := by omega
  have B1 : Below w.heap.size w w1 := Below.trans (((Below.refl _ _).alloc (Nat.le_refl _) _).alloc (by simp) _) (hb.mono (by simp; omega))
  clear hb
  cases b
  · go_wp2
    go_ret
    exact ⟨rfl, B1⟩
  · go_wp2_with fail
    refine (run10_tag pt { data := #[] } pf pg qt qa qf qg pl pc pm pn ql qc qm qn _ n0 n2).mono ?_
    rintro e w2 ⟨E1, rfl, e1, y1, x1, hb⟩
    have p2 := fun i => hb.cell (p := ⟨w.heap.size, i, none⟩) (by dsimp only; omega)
    have q2 := fun i => hb.cell (p := ⟨w.heap.size + 1, i, none⟩) (by dsimp only; omega)
    simp only [p1, q1] at p2 q2
    have z2 : w.heap.size + 1 < w2.heap.size := by have := hb.size; omega
    have z2' : w.heap.size < w2.heap.size := by omega
    have B2 : Below w.heap.size w w2 := B1.trans (hb.mono (by omega))
    clear hb p1 q1 B1 y1
    go_wp2_with fail
    refine (run10_tag qt qa qf qg pt { data := #[] } pf pg ql qc qm qn pl pc pm pn _ n2 n0).mono ?_
    rintro e w3 ⟨E2, rfl, e2, y2, x2, hb⟩
    have p3 := fun i => hb.cell (p := ⟨w.heap.size, i, none⟩) (by simp; omega)
    have q3 := fun i => hb.cell (p := ⟨w.heap.size + 1, i, none⟩) (by simp; omega)
    have f3 := fun i => hb.cell (p := ⟨w2.heap.size, i, none⟩) (by simp)
    simp [go_sem, z2, z2', p2, q2] at p3 q3 f3
    have z3 : w.heap.size + 1 < w3.heap.size := by have := hb.size; simp at this; omega
    have z3' : w.heap.size < w3.heap.size := by omega
    have z3'' : w2.heap.size < w3.heap.size := by have := hb.size; simp at this; omega
    have B3 : Below w.heap.size w w3 := B2.trans (Below.trans ((Below.refl _ _).alloc (Nat.le_refl _) _) (hb.mono (by simp)) |>.mono (by omega))
    have x1' : E1 < w3.heap.size := by have := hb.size; simp at this; omega
    have e1' := err_keep (err_alloc e1 x1 _) (by simp; omega) hb
    clear hb p2 q2 B2 y2 e1
    have s1 : w.heap.size + 1 < w3.heap.size + 1 := by omega
    have s2 : w.heap.size + 1 < w3.heap.size + 1 + 1 := by omega
    have s3 : w.heap.size < w3.heap.size + 1 := by omega
    have s4 : w.heap.size < w3.heap.size + 1 + 1 := by omega
    have s5 : w2.heap.size < w3.heap.size + 1 := by omega
    have s6 : w2.heap.size < w3.heap.size + 1 + 1 := by omega
    have s7 : w3.heap.size < w3.heap.size + 1 + 1 := by omega
    go_wp2_with fail
    refine (fault11 E1 qf ql qc _ (err_alloc (err_alloc (err_alloc e1' x1' _) (by simp; omega) _) (by simp; omega) _)).mono ?_
    rintro e w4 ⟨rfl, hb⟩
    have p4 := fun i => hb.cell (p := ⟨w.heap.size, i, none⟩) (by simp; omega)
    have q4 := fun i => hb.cell (p := ⟨w.heap.size + 1, i, none⟩) (by simp; omega)
    have f4 := fun i => hb.cell (p := ⟨w2.heap.size, i, none⟩) (by simp; omega)
    have g4 := fun i => hb.cell (p := ⟨w3.heap.size, i, none⟩) (by simp; omega)
    have h4 := fun i => hb.cell (p := ⟨w3.heap.size + 1 + 1, i, none⟩) (by simp)
    simp [go_sem, z3, z3', z3'', s1, s2, s3, s4, s5, s6, s7, p3, q3, f3] at p4 q4 f4 g4 h4
    have B4 : Below w.heap.size w w4 := B3.trans (Below.trans ((((Below.refl _ _).alloc (Nat.le_refl _) _).alloc (by simp) _).alloc (by simp; omega) _) (hb.mono (by simp; omega)) |>.mono (by omega))
    have e2' := err_keep (err_alloc (err_alloc (err_alloc e2 x2 _) (by simp; omega) _) (by simp; omega) _) (by simp; omega) hb
    have z4 : w3.heap.size < w4.heap.size := by have := hb.size; simp at this; omega
    clear hb p3 q3 f3 B3 e1' e2
    go_wp2_with fail
    refine (fault11 E2 pf pl pc _ e2').mono ?_
    rintro e w5 ⟨rfl, hb⟩
    have p5 := fun i => hb.cell (p := ⟨w.heap.size, i, none⟩) (by dsimp only; omega)
    have q5 := fun i => hb.cell (p := ⟨w.heap.size + 1, i, none⟩) (by dsimp only; omega)
    have f5 := fun i => hb.cell (p := ⟨w2.heap.size, i, none⟩) (by dsimp only; omega)
    have g5 := fun i => hb.cell (p := ⟨w3.heap.size, i, none⟩) (by dsimp only; omega)
    simp only [p4, q4, f4, g4] at p5 q5 f5 g5
    have B5 : Below w.heap.size w w5 := B4.trans (hb.mono (by omega))
    clear hb p4 q4 f4 g4 h4 B4 e2'
    go_wp2
    go_ret
    exact ⟨rfl, B5⟩


set_option maxRecDepth 100000 in
set_option maxHeartbeats 2000000 in
theorem law4_fefe (pt qt pf pg qf qg : ByteArray) (pl pc pm pn ql qc qm qn : Int) (w : World) (t0 : decide (131072 < (pt.size : Int)) = false) (t1 : decide (131072 < (pf.size : Int)) = false) (t2 : decide (131072 < (pg.size : Int)) = false) (t3 : decide (131072 < (qt.size : Int)) = false) (t4 : decide (131072 < (qf.size : Int)) = false) (t5 : decide (131072 < (qg.size : Int)) = false) (n0 : pt.toList.isEmpty = false) (n2 : qt.toList.isEmpty = false) :
    Calls Trym.prog 4 #[.agg #[.string pt, .string { data := #[] }, .string pf, .int .i64 pl, .int .i64 pc, .string pg, .int .i64 pm, .int .i64 pn], .agg #[.string qt, .string { data := #[] }, .string qf, .int .i64 ql, .int .i64 qc, .string qg, .int .i64 qm, .int .i64 qn]] w fun e w' => e = .returned (.bool true) ∧ Below w.heap.size w w' := by
  have hE := emp_nil
  go_enter Trym.func4, Trym.ntmps4
  go_wp2_with fail
  refine (bytes9 pt { data := #[] } pf pg qt { data := #[] } qf qg pl pc pm pn ql qc qm qn _).mono ?_
  rintro e w1 ⟨b, rfl, hb⟩
  have p1 := fun i => hb.cell (p := ⟨w.heap.size, i, none⟩) (by simp; omega)
  have q1 := fun i => hb.cell (p := ⟨w.heap.size + 1, i, none⟩) (by simp)
  simp [go_sem] at p1 q1
  have z1 : w.heap.size + 1 < w1.heap.size := by have := hb.size; simp at this; omega
  have z1' : w.heap.size < w1.heap.size := by omega
  have B1 : Below w.heap.size w w1 := Below.trans (((Below.refl _ _).alloc (Nat.le_refl _) _).alloc (by simp) _) (hb.mono (by simp; omega))
  clear hb
  cases b
  · go_wp2
    go_ret
    exact ⟨rfl, B1⟩
  · go_wp2_with fail
    refine (run10_tag pt { data := #[] } pf pg qt { data := #[] } qf qg pl pc pm pn ql qc qm qn _ n0 n2).mono ?_
    rintro e w2 ⟨E1, rfl, e1, y1, x1, hb⟩
    have p2 := fun i => hb.cell (p := ⟨w.heap.size, i, none⟩) (by dsimp only; omega)
    have q2 := fun i => hb.cell (p := ⟨w.heap.size + 1, i, none⟩) (by dsimp only; omega)
    simp only [p1, q1] at p2 q2
    have z2 : w.heap.size + 1 < w2.heap.size := by have := hb.size; omega
    have z2' : w.heap.size < w2.heap.size := by omega
    have B2 : Below w.heap.size w w2 := B1.trans (hb.mono (by omega))
    clear hb p1 q1 B1 y1
    go_wp2_with fail
    refine (run10_tag qt { data := #[] } qf qg pt { data := #[] } pf pg ql qc qm qn pl pc pm pn _ n2 n0).mono ?_
    rintro e w3 ⟨E2, rfl, e2, y2, x2, hb⟩
    have p3 := fun i => hb.cell (p := ⟨w.heap.size, i, none⟩) (by simp; omega)
    have q3 := fun i => hb.cell (p := ⟨w.heap.size + 1, i, none⟩) (by simp; omega)
    have f3 := fun i => hb.cell (p := ⟨w2.heap.size, i, none⟩) (by simp)
    simp [go_sem, z2, z2', p2, q2] at p3 q3 f3
    have z3 : w.heap.size + 1 < w3.heap.size := by have := hb.size; simp at this; omega
    have z3' : w.heap.size < w3.heap.size := by omega
    have z3'' : w2.heap.size < w3.heap.size := by have := hb.size; simp at this; omega
    have B3 : Below w.heap.size w w3 := B2.trans (Below.trans ((Below.refl _ _).alloc (Nat.le_refl _) _) (hb.mono (by simp)) |>.mono (by omega))
    have x1' : E1 < w3.heap.size := by have := hb.size; simp at this; omega
    have e1' := err_keep (err_alloc e1 x1 _) (by simp; omega) hb
    clear hb p2 q2 B2 y2 e1
    have s1 : w.heap.size + 1 < w3.heap.size + 1 := by omega
    have s2 : w.heap.size + 1 < w3.heap.size + 1 + 1 := by omega
    have s3 : w.heap.size < w3.heap.size + 1 := by omega
    have s4 : w.heap.size < w3.heap.size + 1 + 1 := by omega
    have s5 : w2.heap.size < w3.heap.size + 1 := by omega
    have s6 : w2.heap.size < w3.heap.size + 1 + 1 := by omega
    have s7 : w3.heap.size < w3.heap.size + 1 + 1 := by omega
    go_wp2_with fail
    refine (fault11 E1 qf ql qc _ (err_alloc (err_alloc (err_alloc e1' x1' _) (by simp; omega) _) (by simp; omega) _)).mono ?_
    rintro e w4 ⟨rfl, hb⟩
    have p4 := fun i => hb.cell (p := ⟨w.heap.size, i, none⟩) (by simp; omega)
    have q4 := fun i => hb.cell (p := ⟨w.heap.size + 1, i, none⟩) (by simp; omega)
    have f4 := fun i => hb.cell (p := ⟨w2.heap.size, i, none⟩) (by simp; omega)
    have g4 := fun i => hb.cell (p := ⟨w3.heap.size, i, none⟩) (by simp; omega)
    have h4 := fun i => hb.cell (p := ⟨w3.heap.size + 1 + 1, i, none⟩) (by simp)
    simp [go_sem, z3, z3', z3'', s1, s2, s3, s4, s5, s6, s7, p3, q3, f3] at p4 q4 f4 g4 h4
    have B4 : Below w.heap.size w w4 := B3.trans (Below.trans ((((Below.refl _ _).alloc (Nat.le_refl _) _).alloc (by simp) _).alloc (by simp; omega) _) (hb.mono (by simp; omega)) |>.mono (by omega))
    have e2' := err_keep (err_alloc (err_alloc (err_alloc e2 x2 _) (by simp; omega) _) (by simp; omega) _) (by simp; omega) hb
    have z4 : w3.heap.size < w4.heap.size := by have := hb.size; simp at this; omega
    clear hb p3 q3 f3 B3 e1' e2
    go_wp2_with fail
    refine (fault11 E2 pf pl pc _ e2').mono ?_
    rintro e w5 ⟨rfl, hb⟩
    have p5 := fun i => hb.cell (p := ⟨w.heap.size, i, none⟩) (by dsimp only; omega)
    have q5 := fun i => hb.cell (p := ⟨w.heap.size + 1, i, none⟩) (by dsimp only; omega)
    have f5 := fun i => hb.cell (p := ⟨w2.heap.size, i, none⟩) (by dsimp only; omega)
    have g5 := fun i => hb.cell (p := ⟨w3.heap.size, i, none⟩) (by dsimp only; omega)
    simp only [p4, q4, f4, g4] at p5 q5 f5 g5
    have B5 : Below w.heap.size w w5 := B4.trans (hb.mono (by omega))
    clear hb p4 q4 f4 g4 h4 B4 e2'
    go_wp2
    go_ret
    exact ⟨rfl, B5⟩


set_option maxRecDepth 100000 in
set_option maxHeartbeats 2000000 in
theorem law4_efff (pa qt qa pf pg qf qg : ByteArray) (pl pc pm pn ql qc qm qn : Int) (w : World) (t0 : decide (131072 < (pa.size : Int)) = false) (t1 : decide (131072 < (pf.size : Int)) = false) (t2 : decide (131072 < (pg.size : Int)) = false) (t3 : decide (131072 < (qt.size : Int)) = false) (t4 : decide (131072 < (qa.size : Int)) = false) (t5 : decide (131072 < (qf.size : Int)) = false) (t6 : decide (131072 < (qg.size : Int)) = false) (n1 : pa.toList.isEmpty = false) (n2 : qt.toList.isEmpty = false) (n3 : qa.toList.isEmpty = false) :
    Calls Trym.prog 4 #[.agg #[.string { data := #[] }, .string pa, .string pf, .int .i64 pl, .int .i64 pc, .string pg, .int .i64 pm, .int .i64 pn], .agg #[.string qt, .string qa, .string qf, .int .i64 ql, .int .i64 qc, .string qg, .int .i64 qm, .int .i64 qn]] w fun e w' => e = .returned (.bool true) ∧ Below w.heap.size w w' := by
  have hE := emp_nil
  go_enter Trym.func4, Trym.ntmps4
  go_wp2_with fail
  refine (bytes9 { data := #[] } pa pf pg qt qa qf qg pl pc pm pn ql qc qm qn _).mono ?_
  rintro e w1 ⟨b, rfl, hb⟩
  have p1 := fun i => hb.cell (p := ⟨w.heap.size, i, none⟩) (by simp; omega)
  have q1 := fun i => hb.cell (p := ⟨w.heap.size + 1, i, none⟩) (by simp)
  simp [go_sem] at p1 q1
  have z1 : w.heap.size + 1 < w1.heap.size := by have := hb.size; simp at this; omega
  have z1' : w.heap.size < w1.heap.size := by omega
  have B1 : Below w.heap.size w w1 := Below.trans (((Below.refl _ _).alloc (Nat.le_refl _) _).alloc (by simp) _) (hb.mono (by simp; omega))
  clear hb
  cases b
  · go_wp2
    go_ret
    exact ⟨rfl, B1⟩
  · go_wp2_with fail
    refine (run10_anchor { data := #[] } pa pf pg qt qa qf qg pl pc pm pn ql qc qm qn _ (.inl emp_nil) n1 n3).mono ?_
    rintro e w2 ⟨E1, rfl, e1, y1, x1, hb⟩
    have p2 := fun i => hb.cell (p := ⟨w.heap.size, i, none⟩) (by dsimp only; omega)
    have q2 := fun i => hb.cell (p := ⟨w.heap.size + 1, i, none⟩) (by dsimp only; omega)
    simp only [p1, q1] at p2 q2
    have z2 : w.heap.size + 1 < w2.heap.size := by have := hb.size; omega
    have z2' : w.heap.size < w2.heap.size := by omega
    have B2 : Below w.heap.size w w2 := B1.trans (hb.mono (by omega))
    clear hb p1 q1 B1 y1
    go_wp2_with fail
    refine (run10_anchor qt qa qf qg { data := #[] } pa pf pg ql qc qm qn pl pc pm pn _ (.inr emp_nil) n3 n1).mono ?_
    rintro e w3 ⟨E2, rfl, e2, y2, x2, hb⟩
    have p3 := fun i => hb.cell (p := ⟨w.heap.size, i, none⟩) (by simp; omega)
    have q3 := fun i => hb.cell (p := ⟨w.heap.size + 1, i, none⟩) (by simp; omega)
    have f3 := fun i => hb.cell (p := ⟨w2.heap.size, i, none⟩) (by simp)
    simp [go_sem, z2, z2', p2, q2] at p3 q3 f3
    have z3 : w.heap.size + 1 < w3.heap.size := by have := hb.size; simp at this; omega
    have z3' : w.heap.size < w3.heap.size := by omega
    have z3'' : w2.heap.size < w3.heap.size := by have := hb.size; simp at this; omega
    have B3 : Below w.heap.size w w3 := B2.trans (Below.trans ((Below.refl _ _).alloc (Nat.le_refl _) _) (hb.mono (by simp)) |>.mono (by omega))
    have x1' : E1 < w3.heap.size := by have := hb.size; simp at this; omega
    have e1' := err_keep (err_alloc e1 x1 _) (by simp; omega) hb
    clear hb p2 q2 B2 y2 e1
    have s1 : w.heap.size + 1 < w3.heap.size + 1 := by omega
    have s2 : w.heap.size + 1 < w3.heap.size + 1 + 1 := by omega
    have s3 : w.heap.size < w3.heap.size + 1 := by omega
    have s4 : w.heap.size < w3.heap.size + 1 + 1 := by omega
    have s5 : w2.heap.size < w3.heap.size + 1 := by omega
    have s6 : w2.heap.size < w3.heap.size + 1 + 1 := by omega
    have s7 : w3.heap.size < w3.heap.size + 1 + 1 := by omega
    go_wp2_with fail
    refine (fault11 E1 qg qm qn _ (err_alloc (err_alloc (err_alloc e1' x1' _) (by simp; omega) _) (by simp; omega) _)).mono ?_
    rintro e w4 ⟨rfl, hb⟩
    have p4 := fun i => hb.cell (p := ⟨w.heap.size, i, none⟩) (by simp; omega)
    have q4 := fun i => hb.cell (p := ⟨w.heap.size + 1, i, none⟩) (by simp; omega)
    have f4 := fun i => hb.cell (p := ⟨w2.heap.size, i, none⟩) (by simp; omega)
    have g4 := fun i => hb.cell (p := ⟨w3.heap.size, i, none⟩) (by simp; omega)
    have h4 := fun i => hb.cell (p := ⟨w3.heap.size + 1 + 1, i, none⟩) (by simp)
    simp [go_sem, z3, z3', z3'', s1, s2, s3, s4, s5, s6, s7, p3, q3, f3] at p4 q4 f4 g4 h4
    have B4 : Below w.heap.size w w4 := B3.trans (Below.trans ((((Below.refl _ _).alloc (Nat.le_refl _) _).alloc (by simp) _).alloc (by simp; omega) _) (hb.mono (by simp; omega)) |>.mono (by omega))
    have e2' := err_keep (err_alloc (err_alloc (err_alloc e2 x2 _) (by simp; omega) _) (by simp; omega) _) (by simp; omega) hb
    have z4 : w3.heap.size < w4.heap.size := by have := hb.size; simp at this; omega
    clear hb p3 q3 f3 B3 e1' e2
    go_wp2_with fail
    refine (fault11 E2 pg pm pn _ e2').mono ?_
    rintro e w5 ⟨rfl, hb⟩
    have p5 := fun i => hb.cell (p := ⟨w.heap.size, i, none⟩) (by dsimp only; omega)
    have q5 := fun i => hb.cell (p := ⟨w.heap.size + 1, i, none⟩) (by dsimp only; omega)
    have f5 := fun i => hb.cell (p := ⟨w2.heap.size, i, none⟩) (by dsimp only; omega)
    have g5 := fun i => hb.cell (p := ⟨w3.heap.size, i, none⟩) (by dsimp only; omega)
    simp only [p4, q4, f4, g4] at p5 q5 f5 g5
    have B5 : Below w.heap.size w w5 := B4.trans (hb.mono (by omega))
    clear hb p4 q4 f4 g4 h4 B4 e2'
    go_wp2
    go_ret
    exact ⟨rfl, B5⟩


set_option maxRecDepth 100000 in
set_option maxHeartbeats 2000000 in
theorem law4_efef (pa qa pf pg qf qg : ByteArray) (pl pc pm pn ql qc qm qn : Int) (w : World) (t0 : decide (131072 < (pa.size : Int)) = false) (t1 : decide (131072 < (pf.size : Int)) = false) (t2 : decide (131072 < (pg.size : Int)) = false) (t3 : decide (131072 < (qa.size : Int)) = false) (t4 : decide (131072 < (qf.size : Int)) = false) (t5 : decide (131072 < (qg.size : Int)) = false) (n1 : pa.toList.isEmpty = false) (n3 : qa.toList.isEmpty = false) :
    Calls Trym.prog 4 #[.agg #[.string { data := #[] }, .string pa, .string pf, .int .i64 pl, .int .i64 pc, .string pg, .int .i64 pm, .int .i64 pn], .agg #[.string { data := #[] }, .string qa, .string qf, .int .i64 ql, .int .i64 qc, .string qg, .int .i64 qm, .int .i64 qn]] w fun e w' => e = .returned (.bool true) ∧ Below w.heap.size w w' := by
  have hE := emp_nil
  go_enter Trym.func4, Trym.ntmps4
  go_wp2_with fail
  refine (bytes9 { data := #[] } pa pf pg { data := #[] } qa qf qg pl pc pm pn ql qc qm qn _).mono ?_
  rintro e w1 ⟨b, rfl, hb⟩
  have p1 := fun i => hb.cell (p := ⟨w.heap.size, i, none⟩) (by simp; omega)
  have q1 := fun i => hb.cell (p := ⟨w.heap.size + 1, i, none⟩) (by simp)
  simp [go_sem] at p1 q1
  have z1 : w.heap.size + 1 < w1.heap.size := by have := hb.size; simp at this; omega
  have z1' : w.heap.size < w1.heap.size := by omega
  have B1 : Below w.heap.size w w1 := Below.trans (((Below.refl _ _).alloc (Nat.le_refl _) _).alloc (by simp) _) (hb.mono (by simp; omega))
  clear hb
  cases b
  · go_wp2
    go_ret
    exact ⟨rfl, B1⟩
  · go_wp2_with fail
    refine (run10_anchor { data := #[] } pa pf pg { data := #[] } qa qf qg pl pc pm pn ql qc qm qn _ (.inl emp_nil) n1 n3).mono ?_
    rintro e w2 ⟨E1, rfl, e1, y1, x1, hb⟩
    have p2 := fun i => hb.cell (p := ⟨w.heap.size, i, none⟩) (by dsimp only; omega)
    have q2 := fun i => hb.cell (p := ⟨w.heap.size + 1, i, none⟩) (by dsimp only; omega)
    simp only [p1, q1] at p2 q2
    have z2 : w.heap.size + 1 < w2.heap.size := by have := hb.size; omega
    have z2' : w.heap.size < w2.heap.size := by omega
    have B2 : Below w.heap.size w w2 := B1.trans (hb.mono (by omega))
    clear hb p1 q1 B1 y1
    go_wp2_with fail
    refine (run10_anchor { data := #[] } qa qf qg { data := #[] } pa pf pg ql qc qm qn pl pc pm pn _ (.inl emp_nil) n3 n1).mono ?_
    rintro e w3 ⟨E2, rfl, e2, y2, x2, hb⟩
    have p3 := fun i => hb.cell (p := ⟨w.heap.size, i, none⟩) (by simp; omega)
    have q3 := fun i => hb.cell (p := ⟨w.heap.size + 1, i, none⟩) (by simp; omega)
    have f3 := fun i => hb.cell (p := ⟨w2.heap.size, i, none⟩) (by simp)
    simp [go_sem, z2, z2', p2, q2] at p3 q3 f3
    have z3 : w.heap.size + 1 < w3.heap.size := by have := hb.size; simp at this; omega
    have z3' : w.heap.size < w3.heap.size := by omega
    have z3'' : w2.heap.size < w3.heap.size := by have := hb.size; simp at this; omega
    have B3 : Below w.heap.size w w3 := B2.trans (Below.trans ((Below.refl _ _).alloc (Nat.le_refl _) _) (hb.mono (by simp)) |>.mono (by omega))
    have x1' : E1 < w3.heap.size := by have := hb.size; simp at this; omega
    have e1' := err_keep (err_alloc e1 x1 _) (by simp; omega) hb
    clear hb p2 q2 B2 y2 e1
    have s1 : w.heap.size + 1 < w3.heap.size + 1 := by omega
    have s2 : w.heap.size + 1 < w3.heap.size + 1 + 1 := by omega
    have s3 : w.heap.size < w3.heap.size + 1 := by omega
    have s4 : w.heap.size < w3.heap.size + 1 + 1 := by omega
    have s5 : w2.heap.size < w3.heap.size + 1 := by omega
    have s6 : w2.heap.size < w3.heap.size + 1 + 1 := by omega
    have s7 : w3.heap.size < w3.heap.size + 1 + 1 := by omega
    go_wp2_with fail
    refine (fault11 E1 qg qm qn _ (err_alloc (err_alloc (err_alloc e1' x1' _) (by simp; omega) _) (by simp; omega) _)).mono ?_
    rintro e w4 ⟨rfl, hb⟩
    have p4 := fun i => hb.cell (p := ⟨w.heap.size, i, none⟩) (by simp; omega)
    have q4 := fun i => hb.cell (p := ⟨w.heap.size + 1, i, none⟩) (by simp; omega)
    have f4 := fun i => hb.cell (p := ⟨w2.heap.size, i, none⟩) (by simp; omega)
    have g4 := fun i => hb.cell (p := ⟨w3.heap.size, i, none⟩) (by simp; omega)
    have h4 := fun i => hb.cell (p := ⟨w3.heap.size + 1 + 1, i, none⟩) (by simp)
    simp [go_sem, z3, z3', z3'', s1, s2, s3, s4, s5, s6, s7, p3, q3, f3] at p4 q4 f4 g4 h4
    have B4 : Below w.heap.size w w4 := B3.trans (Below.trans ((((Below.refl _ _).alloc (Nat.le_refl _) _).alloc (by simp) _).alloc (by simp; omega) _) (hb.mono (by simp; omega)) |>.mono (by omega))
    have e2' := err_keep (err_alloc (err_alloc (err_alloc e2 x2 _) (by simp; omega) _) (by simp; omega) _) (by simp; omega) hb
    have z4 : w3.heap.size < w4.heap.size := by have := hb.size; simp at this; omega
    clear hb p3 q3 f3 B3 e1' e2
    go_wp2_with fail
    refine (fault11 E2 pg pm pn _ e2').mono ?_
    rintro e w5 ⟨rfl, hb⟩
    have p5 := fun i => hb.cell (p := ⟨w.heap.size, i, none⟩) (by dsimp only; omega)
    have q5 := fun i => hb.cell (p := ⟨w.heap.size + 1, i, none⟩) (by dsimp only; omega)
    have f5 := fun i => hb.cell (p := ⟨w2.heap.size, i, none⟩) (by dsimp only; omega)
    have g5 := fun i => hb.cell (p := ⟨w3.heap.size, i, none⟩) (by dsimp only; omega)
    simp only [p4, q4, f4, g4] at p5 q5 f5 g5
    have B5 : Below w.heap.size w w5 := B4.trans (hb.mono (by omega))
    clear hb p4 q4 f4 g4 h4 B4 e2'
    go_wp2
    go_ret
    exact ⟨rfl, B5⟩


end Go.Proofs.Qxb6612688aMods.Join.Sym
