import Derived.Test.Qxb6612688aModsSymA
import Derived.WalkKit
import Derived.Below
import Derived.RegionTactic
import Derived.Deep.QuietTactic
import Derived.BigQuiet
import Derived.WalkSpells
import Derived.WalkLawsBesides
namespace Go.Proofs.Qxb6612688aMods.Join.Sym
open Go.RowKit
set_option linter.unusedVariables false
set_option linter.unusedSimpArgs false

set_option maxRecDepth 100000 in
set_option maxHeartbeats 2000000 in
theorem law4_effe (pa qt pf pg qf qg : ByteArray) (pl pc pm pn ql qc qm qn : Int) (w : World) (t0 : decide (131072 < (pa.size : Int)) = false) (t1 : decide (131072 < (pf.size : Int)) = false) (t2 : decide (131072 < (pg.size : Int)) = false) (t3 : decide (131072 < (qt.size : Int)) = false) (t4 : decide (131072 < (qf.size : Int)) = false) (t5 : decide (131072 < (qg.size : Int)) = false) (n1 : pa.toList.isEmpty = false) (n2 : qt.toList.isEmpty = false) :
    Calls Trym.prog 4 #[.agg #[.string { data := #[] }, .string pa, .string pf, .int .i64 pl, .int .i64 pc, .string pg, .int .i64 pm, .int .i64 pn], .agg #[.string qt, .string { data := #[] }, .string qf, .int .i64 ql, .int .i64 qc, .string qg, .int .i64 qm, .int .i64 qn]] w fun e w' => e = .returned (.bool true) ∧ Below w.heap.size w w' := by
  have hE := emp_nil
  go_enter Trym.func4, Trym.ntmps4
  go_wp2_with fail
  refine (bytes9 { data := #[] } pa pf pg qt { data := #[] } qf qg pl pc pm pn ql qc qm qn _).mono ?_
  rintro e w1 ⟨b, rfl, hb⟩
  have p1 := fun i => hb.cell (p := ⟨w.heap.size, i, none⟩) (by simp; omega)
  have q1 := fun i => hb.cell (p := ⟨w.heap.size + 1, i, none⟩) (by simp)
  simp [go_sem] at p1 q1
  have z1 : w.heap.size + 1 < w1.heap.size := by have := hb.size; simp at this; omega
  have z1' : w.heap.size < w1.heap.size := by omega
  have B1 : Below w.heap.size w w1 := Below.trans (((Below.refl _ _).alloc (Nat.le_refl _) _).alloc (by simp) _) (hb.mono (by simp; omega))
  clear hb
  cases b
  · go_wp2
    go_ret
    exact ⟨rfl, B1⟩
  · go_wp2_with fail
    have hR := fun W => run10_ok { data := #[] } pa pf pg qt { data := #[] } qf qg pl pc pm pn ql qc qm qn W (.inl emp_nil) (.inr emp_nil)
    simp only [sel_t hE, sel_f n2] at hR
    refine (hR _).mono ?_
    clear hR
    rintro e w2 ⟨rfl, hb⟩
    have p2 := fun i => hb.cell (p := ⟨w.heap.size, i, none⟩) (by dsimp only; omega)
    have q2 := fun i => hb.cell (p := ⟨w.heap.size + 1, i, none⟩) (by dsimp only; omega)
    simp only [p1, q1] at p2 q2
    have z2 : w.heap.size + 1 < w2.heap.size := by have := hb.size; omega
    have z2' : w.heap.size < w2.heap.size := by omega
    have B2 : Below w.heap.size w w2 := B1.trans (hb.mono (by omega))
    clear hb p1 q1 B1
    go_wp2_with fail
    have hR := fun W => run10_ok qt { data := #[] } qf qg { data := #[] } pa pf pg ql qc qm qn pl pc pm pn W (.inr emp_nil) (.inl emp_nil)
    simp only [sel_t hE, sel_f n1] at hR
    refine (hR _).mono ?_
    clear hR
    rintro e w3 ⟨rfl, hb⟩
    have p3 := fun i => hb.cell (p := ⟨w.heap.size, i, none⟩) (by simp; omega)
    have q3 := fun i => hb.cell (p := ⟨w.heap.size + 1, i, none⟩) (by simp; omega)
    have f3 := fun i => hb.cell (p := ⟨w2.heap.size, i, none⟩) (by simp)
    simp [go_sem, z2, z2', p2, q2] at p3 q3 f3
    have z3 : w.heap.size + 1 < w3.heap.size := by have := hb.size; simp at this; omega
    have z3' : w.heap.size < w3.heap.size := by omega
    have z3'' : w2.heap.size < w3.heap.size := by have := hb.size; simp at this; omega
    have B3 : Below w.heap.size w w3 := B2.trans (Below.trans ((Below.refl _ _).alloc (Nat.le_refl _) _) (hb.mono (by simp)) |>.mono (by omega))
    clear hb p2 q2 B2
    have k0 := nil_add qt t3
    have k1 := add_nil pa t0
    go_wp2_with fail
    refine (places12_q pf qf pl pc ql qc _).mono ?_
    rintro e w4 ⟨rfl, hb⟩
    have p4 := fun i => hb.cell (p := ⟨w.heap.size, i, none⟩) (by simp; omega)
    have q4 := fun i => hb.cell (p := ⟨w.heap.size + 1, i, none⟩) (by simp; omega)
    have f4 := fun i => hb.cell (p := ⟨w2.heap.size, i, none⟩) (by simp; omega)
    have g4 := fun i => hb.cell (p := ⟨w3.heap.size, i, none⟩) (by simp)
    simp [go_sem, z3, z3', z3'', p3, q3, f3] at p4 q4 f4 g4
    have B4 : Below w.heap.size w w4 := B3.trans (Below.trans ((Below.refl _ _).alloc (Nat.le_refl _) _) (hb.mono (by simp)) |>.mono (by omega))
    have z4 : w3.heap.size < w4.heap.size := by have := hb.size; simp at this; omega
    clear hb p3 q3 f3 B3 k0 k1
    go_wp2_with fail
    refine (places12_p false pg qg pm pn qm qn _).mono ?_
    rintro e w5 ⟨rfl, hb⟩
    have B5 : Below w.heap.size w w5 := B4.trans (hb.mono (by omega))
    clear hb p4 q4 f4 g4 B4
    go_wp2
    go_ret
    exact ⟨rfl, B5⟩


set_option maxRecDepth 100000 in
set_option maxHeartbeats 2000000 in
theorem law4_efee (pa pf pg qf qg : ByteArray) (pl pc pm pn ql qc qm qn : Int) (w : World) (t0 : decide (131072 < (pa.size : Int)) = false) (t1 : decide (131072 < (pf.size : Int)) = false) (t2 : decide (131072 < (pg.size : Int)) = false) (t3 : decide (131072 < (qf.size : Int)) = false) (t4 : decide (131072 < (qg.size : Int)) = false) (n1 : pa.toList.isEmpty = false) :
    Calls Trym.prog 4 #[.agg #[.string { data := #[] }, .string pa, .string pf, .int .i64 pl, .int .i64 pc, .string pg, .int .i64 pm, .int .i64 pn], .agg #[.string { data := #[] }, .string { data := #[] }, .string qf, .int .i64 ql, .int .i64 qc, .string qg, .int .i64 qm, .int .i64 qn]] w fun e w' => e = .returned (.bool true) ∧ Below w.heap.size w w' := by
  have hE := emp_nil
  go_enter Trym.func4, Trym.ntmps4
  go_wp2_with fail
  refine (bytes9 { data := #[] } pa pf pg { data := #[] } { data := #[] } qf qg pl pc pm pn ql qc qm qn _).mono ?_
  rintro e w1 ⟨b, rfl, hb⟩
  have p1 := fun i => hb.cell (p := ⟨w.heap.size, i, none⟩) (by simp; omega)
  have q1 := fun i => hb.cell (p := ⟨w.heap.size + 1, i, none⟩) (by simp)
  simp [go_sem] at p1 q1
  have z1 : w.heap.size + 1 < w1.heap.size := by have := hb.size; simp at this; omega
  have z1' : w.heap.size < w1.heap.size := by omega
  have B1 : Below w.heap.size w w1 := Below.trans (((Below.refl _ _).alloc (Nat.le_refl _) _).alloc (by simp) _) (hb.mono (by simp; omega))
  clear hb
  cases b
  · go_wp2
    go_ret
    exact ⟨rfl, B1⟩
  · go_wp2_with fail
    have hR := fun W => run10_ok { data := #[] } pa pf pg { data := #[] } { data := #[] } qf qg pl pc pm pn ql qc qm qn W (.inl emp_nil) (.inr emp_nil)
    simp only [sel_t hE] at hR
    refine (hR _).mono ?_
    clear hR
    rintro e w2 ⟨rfl, hb⟩
    have p2 := fun i => hb.cell (p := ⟨w.heap.size, i, none⟩) (by dsimp only; omega)
    have q2 := fun i => hb.cell (p := ⟨w.heap.size + 1, i, none⟩) (by dsimp only; omega)
    simp only [p1, q1] at p2 q2
    have z2 : w.heap.size + 1 < w2.heap.size := by have := hb.size; omega
    have z2' : w.heap.size < w2.heap.size := by omega
    have B2 : Below w.heap.size w w2 := B1.trans (hb.mono (by omega))
    clear hb p1 q1 B1
    go_wp2_with fail
    have hR := fun W => run10_ok { data := #[] } { data := #[] } qf qg { data := #[] } pa pf pg ql qc qm qn pl pc pm pn W (.inl emp_nil) (.inl emp_nil)
    simp only [sel_t hE, sel_f n1] at hR
    refine (hR _).mono ?_
    clear hR
    rintro e w3 ⟨rfl, hb⟩
    have p3 := fun i => hb.cell (p := ⟨w.heap.size, i, none⟩) (by simp; omega)
    have q3 := fun i => hb.cell (p := ⟨w.heap.size + 1, i, none⟩) (by simp; omega)
    have f3 := fun i => hb.cell (p := ⟨w2.heap.size, i, none⟩) (by simp)
    simp [go_sem, z2, z2', p2, q2] at p3 q3 f3
    have z3 : w.heap.size + 1 < w3.heap.size := by have := hb.size; simp at this; omega
    have z3' : w.heap.size < w3.heap.size := by omega
    have z3'' : w2.heap.size < w3.heap.size := by have := hb.size; simp at this; omega
    have B3 : Below w.heap.size w w3 := B2.trans (Below.trans ((Below.refl _ _).alloc (Nat.le_refl _) _) (hb.mono (by simp)) |>.mono (by omega))
    clear hb p2 q2 B2
    have k0 := nil_nil
    have k1 := add_nil pa t0
    go_wp2_with fail
    refine (places12_n pf qf pl pc ql qc _).mono ?_
    rintro e w4 ⟨rfl, hb⟩
    have p4 := fun i => hb.cell (p := ⟨w.heap.size, i, none⟩) (by simp; omega)
    have q4 := fun i => hb.cell (p := ⟨w.heap.size + 1, i, none⟩) (by simp; omega)
    have f4 := fun i => hb.cell (p := ⟨w2.heap.size, i, none⟩) (by simp; omega)
    have g4 := fun i => hb.cell (p := ⟨w3.heap.size, i, none⟩) (by simp)
    simp [go_sem, z3, z3', z3'', p3, q3, f3] at p4 q4 f4 g4
    have B4 : Below w.heap.size w w4 := B3.trans (Below.trans ((Below.refl _ _).alloc (Nat.le_refl _) _) (hb.mono (by simp)) |>.mono (by omega))
    have z4 : w3.heap.size < w4.heap.size := by have := hb.size; simp at this; omega
    clear hb p3 q3 f3 B3 k0 k1
    go_wp2_with fail
    refine (places12_p false pg qg pm pn qm qn _).mono ?_
    rintro e w5 ⟨rfl, hb⟩
    have B5 : Below w.heap.size w w5 := B4.trans (hb.mono (by omega))
    clear hb p4 q4 f4 g4 B4
    go_wp2
    go_ret
    exact ⟨rfl, B5⟩


set_option maxRecDepth 100000 in
set_option maxHeartbeats 2000000 in
theorem law4_eeff (qt qa pf pg qf qg : ByteArray) (pl pc pm pn ql qc qm qn : Int) (w : World) (t0 : decide (131072 < (pf.size : Int)) = false) (t1 : decide (131072 < (pg.size : Int)) = false) (t2 : decide (131072 < (qt.size : Int)) = false) (t3 : decide (131072 < (qa.size : Int)) = false) (t4 : decide (131072 < (qf.size : Int)) = false) (t5 : decide (131072 < (qg.size : Int)) = false) (n2 : qt.toList.isEmpty = false) (n3 : qa.toList.isEmpty = false) :
    Calls Trym.prog 4 #[.agg #[.string { data := #[] }, .string { data := #[] }, .string pf, .int .i64 pl, .int .i64 pc, .string pg, .int .i64 pm, .int .i64 pn], .agg #[.string qt, .string qa, .string qf, .int .i64 ql, .int .i64 qc, .string qg, .int .i64 qm, .int .i64 qn]] w fun e w' => e = .returned (.bool true) ∧ Below w.heap.size w w' := by
  have hE := emp_nil
  go_enter Trym.func4, Trym.ntmps4
  go_wp2_with fail
  refine (bytes9 { data := #[] } { data := #[] } pf pg qt qa qf qg pl pc pm pn ql qc qm qn _).mono ?_
  rintro e w1 ⟨b, rfl, hb⟩
  have p1 := fun i => hb.cell (p := ⟨w.heap.size, i, none⟩) (by simp; omega)
  have q1 := fun i => hb.cell (p := ⟨w.heap.size + 1, i, none⟩) (by simp)
  simp [go_sem] at p1 q1
  have z1 : w.heap.size + 1 < w1.heap.size := by have := hb.size; simp at this; omega
  have z1' : w.heap.size < w1.heap.size := by omega
  have B1 : Below w.heap.size w w1 := Below.trans (((Below.refl _ _).alloc (Nat.le_refl _) _).alloc (by simp) _) (hb.mono (by simp; omega))
  clear hb
  cases b
  · go_wp2
    go_ret
    exact ⟨rfl, B1⟩
  · go_wp2_with fail
    have hR := fun W => run10_ok { data := #[] } { data := #[] } pf pg qt qa qf qg pl pc pm pn ql qc qm qn W (.inl emp_nil) (.inl emp_nil)
    simp only [sel_f n2, sel_f n3] at hR
    refine (hR _).mono ?_
    clear hR
    rintro e w2 ⟨rfl, hb⟩
    have p2 := fun i => hb.cell (p := ⟨w.heap.size, i, none⟩) (by dsimp only; omega)
    have q2 := fun i => hb.cell (p := ⟨w.heap.size + 1, i, none⟩) (by dsimp only; omega)
    simp only [p1, q1] at p2 q2
    have z2 : w.heap.size + 1 < w2.heap.size := by have := hb.size; omega
    have z2' : w.heap.size < w2.heap.size := by omega
    have B2 : Below w.heap.size w w2 := B1.trans (hb.mono (by omega))
    clear hb p1 q1 B1
    go_wp2_with fail
    have hR := fun W => run10_ok qt qa qf qg { data := #[] } { data := #[] } pf pg ql qc qm qn pl pc pm pn W (.inr emp_nil) (.inr emp_nil)
    simp only [sel_t hE] at hR
    refine (hR _).mono ?_
    clear hR
    rintro e w3 ⟨rfl, hb⟩
    have p3 := fun i => hb.cell (p := ⟨w.heap.size, i, none⟩) (by simp; omega)
    have q3 := fun i => hb.cell (p := ⟨w.heap.size + 1, i, none⟩) (by simp; omega)
    have f3 := fun i => hb.cell (p := ⟨w2.heap.size, i, none⟩) (by simp)
    simp [go_sem, z2, z2', p2, q2] at p3 q3 f3
    have z3 : w.heap.size + 1 < w3.heap.size := by have := hb.size; simp at this; omega
    have z3' : w.heap.size < w3.heap.size := by omega
    have z3'' : w2.heap.size < w3.heap.size := by have := hb.size; simp at this; omega
    have B3 : Below w.heap.size w w3 := B2.trans (Below.trans ((Below.refl _ _).alloc (Nat.le_refl _) _) (hb.mono (by simp)) |>.mono (by omega))
    clear hb p2 q2 B2
    have k0 := nil_add qt t2
    have k1 := nil_add qa t3
    go_wp2_with fail
    refine (places12_q pf qf pl pc ql qc _).mono ?_
    rintro e w4 ⟨rfl, hb⟩
    have p4 := fun i => hb.cell (p := ⟨w.heap.size, i, none⟩) (by simp; omega)
    have q4 := fun i => hb.cell (p := ⟨w.heap.size + 1, i, none⟩) (by simp; omega)
    have f4 := fun i => hb.cell (p := ⟨w2.heap.size, i, none⟩) (by simp; omega)
    have g4 := fun i => hb.cell (p := ⟨w3.heap.size, i, none⟩) (by simp)
    simp [go_sem, z3, z3', z3'', p3, q3, f3] at p4 q4 f4 g4
    have B4 : Below w.heap.size w w4 := B3.trans (Below.trans ((Below.refl _ _).alloc (Nat.le_refl _) _) (hb.mono (by simp)) |>.mono (by omega))
    have z4 : w3.heap.size < w4.heap.size := by have := hb.size; simp at this; omega
    clear hb p3 q3 f3 B3 k0 k1
    go_wp2_with fail
    refine (places12_q pg qg pm pn qm qn _).mono ?_
    rintro e w5 ⟨rfl, hb⟩
    have B5 : Below w.heap.size w w5 := B4.trans (hb.mono (by omega))
    clear hb p4 q4 f4 g4 B4
    go_wp2
    go_ret
    exact ⟨rfl, B5⟩


end Go.Proofs.Qxb6612688aMods.Join.Sym
