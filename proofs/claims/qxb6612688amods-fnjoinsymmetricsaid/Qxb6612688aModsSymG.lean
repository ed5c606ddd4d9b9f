import Derived.Test.Qxb6612688aModsSymB
import Derived.Test.Qxb6612688aModsSymC
import Derived.Test.Qxb6612688aModsSymD
import Derived.Test.Qxb6612688aModsSymE
import Derived.Test.Qxb6612688aModsSymF
import Derived.WalkKit
import Derived.Below
import Derived.RegionTactic
import Derived.Deep.QuietTactic
import Derived.BigQuiet
import Derived.WalkSpells
import Derived.WalkLawsBesides
namespace Go.Proofs.Qxb6612688aMods.Join.Sym
open Go.RowKit
set_option linter.unusedVariables false
set_option linter.unusedSimpArgs false

theorem dec_false {p : Prop} [Decidable p] (h : ¬ p) : decide p = false := by simpa using h

theorem law4 (pt pa pf pg qt qa qf qg : ByteArray) (pl pc pm pn ql qc qm qn : Int) (w : World) :
    Calls Trym.prog 4 #[.agg #[.string pt, .string pa, .string pf, .int .i64 pl, .int .i64 pc, .string pg, .int .i64 pm, .int .i64 pn], .agg #[.string qt, .string qa, .string qf, .int .i64 ql, .int .i64 qc, .string qg, .int .i64 qm, .int .i64 qn]] w fun e w' => e = .returned (.bool true) ∧ Below w.heap.size w w' := by
  by_cases h : 131072 < (pt.size : Int) ∨ 131072 < (pa.size : Int) ∨ 131072 < (pf.size : Int) ∨ 131072 < (pg.size : Int) ∨ 131072 < (qt.size : Int) ∨ 131072 < (qa.size : Int) ∨ 131072 < (qf.size : Int) ∨ 131072 < (qg.size : Int)
  · exact law4_big pt pa pf pg qt qa qf qg pl pc pm pn ql qc qm qn w h
  · simp only [not_or] at h
    obtain ⟨dpt, dpa, dpf, dpg, dqt, dqa, dqf, dqg⟩ := h
    have t_pt := dec_false dpt
    have t_pa := dec_false dpa
    have t_pf := dec_false dpf
    have t_pg := dec_false dpg
    have t_qt := dec_false dqt
    have t_qa := dec_false dqa
    have t_qf := dec_false dqf
    have t_qg := dec_false dqg
    clear dpt dpa dpf dpg dqt dqa dqf dqg
    cases h0 : pt.toList.isEmpty <;> cases h1 : pa.toList.isEmpty <;> cases h2 : qt.toList.isEmpty <;> cases h3 : qa.toList.isEmpty
    · exact law4_ffff pt pa qt qa pf pg qf qg pl pc pm pn ql qc qm qn w t_pt t_pa t_pf t_pg t_qt t_qa t_qf t_qg h0 h1 h2 h3
    · have e3 := emp h3
      subst e3
      exact law4_fffe pt pa qt pf pg qf qg pl pc pm pn ql qc qm qn w t_pt t_pa t_pf t_pg t_qt t_qf t_qg h0 h1 h2
    · have e2 := emp h2
      subst e2
      exact law4_ffef pt pa qa pf pg qf qg pl pc pm pn ql qc qm qn w t_pt t_pa t_pf t_pg t_qa t_qf t_qg h0 h1 h3
    · have e2 := emp h2
      subst e2
      have e3 := emp h3
      subst e3
      exact law4_ffee pt pa pf pg qf qg pl pc pm pn ql qc qm qn w t_pt t_pa t_pf t_pg t_qf t_qg h0 h1
    · have e1 := emp h1
      subst e1
      exact law4_feff pt qt qa pf pg qf qg pl pc pm pn ql qc qm qn w t_pt t_pf t_pg t_qt t_qa t_qf t_qg h0 h2 h3
    · have e1 := emp h1
      subst e1
      have e3 := emp h3
      subst e3
      exact law4_fefe pt qt pf pg qf qg pl pc pm pn ql qc qm qn w t_pt t_pf t_pg t_qt t_qf t_qg h0 h2
    · have e1 := emp h1
      subst e1
      have e2 := emp h2
      subst e2
      exact law4_feef pt qa pf pg qf qg pl pc pm pn ql qc qm qn w t_pt t_pf t_pg t_qa t_qf t_qg h0 h3
    · have e1 := emp h1
      subst e1
      have e2 := emp h2
      subst e2
      have e3 := emp h3
      subst e3
      exact law4_feee pt pf pg qf qg pl pc pm pn ql qc qm qn w t_pt t_pf t_pg t_qf t_qg h0
    · have e0 := emp h0
      subst e0
      exact law4_efff pa qt qa pf pg qf qg pl pc pm pn ql qc qm qn w t_pa t_pf t_pg t_qt t_qa t_qf t_qg h1 h2 h3
    · have e0 := emp h0
      subst e0
      have e3 := emp h3
      subst e3
      exact law4_effe pa qt pf pg qf qg pl pc pm pn ql qc qm qn w t_pa t_pf t_pg t_qt t_qf t_qg h1 h2
    · have e0 := emp h0
      subst e0
      have e2 := emp h2
      subst e2
      exact law4_efef pa qa pf pg qf qg pl pc pm pn ql qc qm qn w t_pa t_pf t_pg t_qa t_qf t_qg h1 h3
    · have e0 := emp h0
      subst e0
      have e2 := emp h2
      subst e2
      have e3 := emp h3
      subst e3
      exact law4_efee pa pf pg qf qg pl pc pm pn ql qc qm qn w t_pa t_pf t_pg t_qf t_qg h1
    · have e0 := emp h0
      subst e0
      have e1 := emp h1
      subst e1
      exact law4_eeff qt qa pf pg qf qg pl pc pm pn ql qc qm qn w t_pf t_pg t_qt t_qa t_qf t_qg h2 h3
    · have e0 := emp h0
      subst e0
      have e1 := emp h1
      subst e1
      have e3 := emp h3
      subst e3
      exact law4_eefe qt pf pg qf qg pl pc pm pn ql qc qm qn w t_pf t_pg t_qt t_qf t_qg h2
    · have e0 := emp h0
      subst e0
      have e1 := emp h1
      subst e1
      have e2 := emp h2
      subst e2
      exact law4_eeef qa pf pg qf qg pl pc pm pn ql qc qm qn w t_pf t_pg t_qa t_qf t_qg h3
    · have e0 := emp h0
      subst e0
      have e1 := emp h1
      subst e1
      have e2 := emp h2
      subst e2
      have e3 := emp h3
      subst e3
      exact law4_eeee pf pg qf qg pl pc pm pn ql qc qm qn w t_pf t_pg t_qf t_qg
end Go.Proofs.Qxb6612688aMods.Join.Sym
