import Derived.Test.Qxb6612688aModsSymA
import Derived.WalkKit
import Derived.Below
import Derived.RegionTactic
import Derived.Deep.QuietTactic
import Derived.BigQuiet
import Derived.WalkSpells
import Derived.WalkLawsBesides
namespace Go.Proofs.Qxb6612688aMods.Join.Sym
open Go.RowKit
set_option linter.unusedVariables false
set_option linter.unusedSimpArgs false

set_option maxRecDepth 100000 in
set_option maxHeartbeats 2000000 in
theorem law4_big (pt pa pf pg qt qa qf qg : ByteArray) (pl pc pm pn ql qc qm qn : Int) (w : World) (h : 131072 < (pt.size : Int) ∨ 131072 < (pa.size : Int) ∨ 131072 < (pf.size : Int) ∨ 131072 < (pg.size : Int) ∨ 131072 < (qt.size : Int) ∨ 131072 < (qa.size : Int) ∨ 131072 < (qf.size : Int) ∨ 131072 < (qg.size : Int)) :
    Calls Trym.prog 4 #[.agg #[.string pt, .string pa, .string pf, .int .i64 pl, .int .i64 pc, .string pg, .int .i64 pm, .int .i64 pn], .agg #[.string qt, .string qa, .string qf, .int .i64 ql, .int .i64 qc, .string qg, .int .i64 qm, .int .i64 qn]] w fun e w' => e = .returned (.bool true) ∧ Below w.heap.size w w' := by
  have HH := hid h
  clear h
  go_enter Trym.func4, Trym.ntmps4
  go_wp2_with fail
  refine (bytes9 pt pa pf pg qt qa qf qg pl pc pm pn ql qc qm qn _).mono ?_
  rintro e w1 ⟨b, rfl, hb⟩
  have p1 := fun i => hb.cell (p := ⟨w.heap.size, i, none⟩) (by simp; omega)
  have q1 := fun i => hb.cell (p := ⟨w.heap.size + 1, i, none⟩) (by simp)
  simp [go_sem] at p1 q1
  have B1 : Below w.heap.size w w1 := Below.trans (((Below.refl _ _).alloc (Nat.le_refl _) _).alloc (by simp) _) (hb.mono (by simp; omega))
  clear hb
  cases b
  · go_wp2
    go_ret
    exact ⟨rfl, B1⟩
  · by_cases k0 : 131072 < (pt.size : Int)
    · have t0 : decide (131072 < (pt.size : Int)) = true := by simpa using k0
      go_wp2
      go_ret
      exact ⟨rfl, B1⟩
    · have t0 : decide (131072 < (pt.size : Int)) = false := by simpa using k0
      by_cases k1 : 131072 < (pa.size : Int)
      · have t1 : decide (131072 < (pa.size : Int)) = true := by simpa using k1
        go_wp2
        go_ret
        exact ⟨rfl, B1⟩
      · have t1 : decide (131072 < (pa.size : Int)) = false := by simpa using k1
        by_cases k2 : 131072 < (pf.size : Int)
        · have t2 : decide (131072 < (pf.size : Int)) = true := by simpa using k2
          go_wp2
          go_ret
          exact ⟨rfl, B1⟩
        · have t2 : decide (131072 < (pf.size : Int)) = false := by simpa using k2
          by_cases k3 : 131072 < (pg.size : Int)
          · have t3 : decide (131072 < (pg.size : Int)) = true := by simpa using k3
            go_wp2
            go_ret
            exact ⟨rfl, B1⟩
          · have t3 : decide (131072 < (pg.size : Int)) = false := by simpa using k3
            by_cases k4 : 131072 < (qt.size : Int)
            · have t4 : decide (131072 < (qt.size : Int)) = true := by simpa using k4
              go_wp2
              go_ret
              exact ⟨rfl, B1⟩
            · have t4 : decide (131072 < (qt.size : Int)) = false := by simpa using k4
              by_cases k5 : 131072 < (qa.size : Int)
              · have t5 : decide (131072 < (qa.size : Int)) = true := by simpa using k5
                go_wp2
                go_ret
                exact ⟨rfl, B1⟩
              · have t5 : decide (131072 < (qa.size : Int)) = false := by simpa using k5
                by_cases k6 : 131072 < (qf.size : Int)
                · have t6 : decide (131072 < (qf.size : Int)) = true := by simpa using k6
                  go_wp2
                  go_ret
                  exact ⟨rfl, B1⟩
                · have t6 : decide (131072 < (qf.size : Int)) = false := by simpa using k6
                  have k7 : 131072 < (qg.size : Int) := by have := HH.out; omega
                  have t7 : decide (131072 < (qg.size : Int)) = true := by simpa using k7
                  go_wp2
                  go_ret
                  exact ⟨rfl, B1⟩
end Go.Proofs.Qxb6612688aMods.Join.Sym
