import Derived.Test.Qxb6612688aModsWalksD
import Derived.WalkKit
import Derived.Below
import Derived.RegionTactic
import Derived.Deep.QuietTactic
import Derived.BigQuiet
import Derived.WalkSpells
import Derived.WalkLawsBesides
namespace Go.Proofs.Qxb6612688aMods.Join
open Go.RowKit
set_option linter.unusedVariables false
set_option linter.unusedSimpArgs false

theorem run10_ok (pt pa pf pg qt qa qf qg : ByteArray) (pl pc pm pn ql qc qm qn : Int) (w : World)
    (hT : pt.toList.isEmpty = true ∨ qt.toList.isEmpty = true) (hA : pa.toList.isEmpty = true ∨ qa.toList.isEmpty = true) :
    Calls Trym.prog 10 #[.agg #[.string pt, .string pa, .string pf, .int .i64 pl, .int .i64 pc, .string pg, .int .i64 pm, .int .i64 pn], .agg #[.string qt, .string qa, .string qf, .int .i64 ql, .int .i64 qc, .string qg, .int .i64 qm, .int .i64 qn]] w fun e w' =>
      e = .returned (.agg #[.string (sel qt pt qt), .string (sel qa pa qa), .string (sel qt pf qf), .int .i64 (sel qt pl ql), .int .i64 (sel qt pc qc), .string (sel qa pg qg), .int .i64 (sel qa pm qm), .int .i64 (sel qa pn qn), .bool false, .pointer none]) ∧ Below w.heap.size w w' := by
  refine (run10 pt pa pf pg qt qa qf qg pl pc pm pn ql qc qm qn (sel qt pt qt) (sel qa pa qa) (sel qt pf qf) (sel qa pg qg) (sel qt pl ql) (sel qt pc qc) (sel qa pm qm) (sel qa pn qn) false (fun _ x _ => x = none) w (hid fun W => ?_)).mono ?_
  · refine (zz16_ok pt pa pf pg qt qa qf qg pl pc pm pn ql qc qm qn W hT hA).mono ?_
    rintro e w' ⟨he, hb⟩
    exact ⟨none, he, rfl, hb⟩
  · rintro e w' ⟨x, w1, B, he, rfl, _, _, hb⟩
    exact ⟨he, hb⟩

theorem run10_fail (pt pa pf pg qt qa qf qg nm : ByteArray) (pl pc pm pn ql qc qm qn l c : Int) (w : World)
    (hJ : Hid (∀ (W : World) (P tf af : Nat), P < W.heap.size → W.cell? ⟨P, 0, none⟩ = some (.string pt) → W.cell? ⟨P, 1, none⟩ = some (.string pa) → W.cell? ⟨tf, 0, none⟩ = some (.string qf) → W.cell? ⟨af, 0, none⟩ = some (.string qg) →
      Calls Trym.prog 20 #[.pointer (some ⟨P, 0, none⟩), .agg #[.string qt, .string qa, .pointer (some ⟨tf, 0, none⟩), .int .i64 ql, .int .i64 qc, .pointer (some ⟨af, 0, none⟩), .int .i64 qm, .int .i64 qn]] W fun e w' =>
        e = .returned (.iface 29 (.pointer (some ⟨W.heap.size + 2, 0, none⟩))) ∧ IsErr w' (W.heap.size + 2) nm l c ∧ W.heap.size + 2 < w'.heap.size ∧ Below W.heap.size W w')) :
    Calls Trym.prog 10 #[.agg #[.string pt, .string pa, .string pf, .int .i64 pl, .int .i64 pc, .string pg, .int .i64 pm, .int .i64 pn], .agg #[.string qt, .string qa, .string qf, .int .i64 ql, .int .i64 qc, .string qg, .int .i64 qm, .int .i64 qn]] w fun e w' =>
      ∃ E, e = .returned (.agg #[.string pt, .string pa, .string pf, .int .i64 pl, .int .i64 pc, .string pg, .int .i64 pm, .int .i64 pn, .bool true, .pointer (some ⟨E, 0, none⟩)]) ∧ IsErr w' E nm l c ∧ w.heap.size ≤ E ∧ E < w'.heap.size ∧ Below w.heap.size w w' := by
  refine (run10 pt pa pf pg qt qa qf qg pl pc pm pn ql qc qm qn pt pa pf pg pl pc pm pn true (fun B x w' => ∃ E, x = some ⟨E, 0, none⟩ ∧ IsErr w' E nm l c ∧ B ≤ E ∧ E < w'.heap.size) w (hid fun W => ?_)).mono ?_
  · refine (zz16_fail pt pa pf pg qt qa qf qg nm pl pc pm pn ql qc qm qn l c W hJ).mono ?_
    rintro e w' ⟨E, he, h1, h2, h3, hb⟩
    exact ⟨_, he, ⟨E, rfl, h1, h2, h3⟩, hb⟩
  · rintro e w' ⟨x, w1, B, he, ⟨E, rfl, ⟨i0, i1, i2⟩, h2, h3⟩, hB, hg, hb⟩
    have hs := hg.size
    refine ⟨E, he, ⟨?_, ?_, ?_⟩, by omega, by omega, hb⟩
    · rw [gb_cell hg h3 (by omega)]; exact i0
    · rw [gb_cell hg h3 (by omega)]; exact i1
    · rw [gb_cell hg h3 (by omega)]; exact i2

theorem run10_tag (pt pa pf pg qt qa qf qg : ByteArray) (pl pc pm pn ql qc qm qn : Int) (w : World) (h1 : pt.toList.isEmpty = false) (h2 : qt.toList.isEmpty = false) :
    Calls Trym.prog 10 #[.agg #[.string pt, .string pa, .string pf, .int .i64 pl, .int .i64 pc, .string pg, .int .i64 pm, .int .i64 pn], .agg #[.string qt, .string qa, .string qf, .int .i64 ql, .int .i64 qc, .string qg, .int .i64 qm, .int .i64 qn]] w fun e w' =>
      ∃ E, e = .returned (.agg #[.string pt, .string pa, .string pf, .int .i64 pl, .int .i64 pc, .string pg, .int .i64 pm, .int .i64 pn, .bool true, .pointer (some ⟨E, 0, none⟩)]) ∧ IsErr w' E qf ql qc ∧ w.heap.size ≤ E ∧ E < w'.heap.size ∧ Below w.heap.size w w' :=
  run10_fail pt pa pf pg qt qa qf qg qf pl pc pm pn ql qc qm qn ql qc w (hid fun W P tf af hP c0 c1 t0 t1 => join20_tag P pt qt qa qf tf af ql qc qm qn W hP c0 t0 h1 h2)

theorem run10_anchor (pt pa pf pg qt qa qf qg : ByteArray) (pl pc pm pn ql qc qm qn : Int) (w : World) (hT : pt.toList.isEmpty = true ∨ qt.toList.isEmpty = true) (h1 : pa.toList.isEmpty = false) (h2 : qa.toList.isEmpty = false) :
    Calls Trym.prog 10 #[.agg #[.string pt, .string pa, .string pf, .int .i64 pl, .int .i64 pc, .string pg, .int .i64 pm, .int .i64 pn], .agg #[.string qt, .string qa, .string qf, .int .i64 ql, .int .i64 qc, .string qg, .int .i64 qm, .int .i64 qn]] w fun e w' =>
      ∃ E, e = .returned (.agg #[.string pt, .string pa, .string pf, .int .i64 pl, .int .i64 pc, .string pg, .int .i64 pm, .int .i64 pn, .bool true, .pointer (some ⟨E, 0, none⟩)]) ∧ IsErr w' E qg qm qn ∧ w.heap.size ≤ E ∧ E < w'.heap.size ∧ Below w.heap.size w w' :=
  run10_fail pt pa pf pg qt qa qf qg qg pl pc pm pn ql qc qm qn qm qn w (hid fun W P tf af hP c0 c1 t0 t1 => join20_anchor P pt pa qt qa qg tf af ql qc qm qn W hP c0 c1 t1 hT h1 h2)

set_option maxRecDepth 100000 in
set_option maxHeartbeats 1000000 in
theorem fault11 (E : Nat) (f : ByteArray) (l c : Int) (w : World) (h : IsErr w E f l c) :
    Calls Trym.prog 11 #[.pointer (some ⟨E, 0, none⟩), .agg #[.string f, .int .i64 l, .int .i64 c]] w fun e w' => e = .returned (.bool true) ∧ Below w.heap.size w w' := by
  obtain ⟨i0, i1, i2⟩ := h
  have hE := lt_of_cell i0
  go_enter Trym.func11, Trym.ntmps11
  go_wp2
  go_quiet (fail)
  go_wp2
  go_ret
  exact ⟨rfl, below_drewN (by exact (Below.refl _ _).alloc (Nat.le_refl _) _) _⟩

set_option maxRecDepth 100000 in
set_option maxHeartbeats 1000000 in
theorem bytes13 (qt qa qf qg : ByteArray) (ql qc qm qn : Int) (w : World) :
    Calls Trym.prog 13 #[.agg #[.string qt, .string qa, .string qf, .int .i64 ql, .int .i64 qc, .string qg, .int .i64 qm, .int .i64 qn]] w fun e w' => ∃ b : Bool, e = .returned (.bool b) ∧ Below w.heap.size w w' := by
  go_enter Trym.func13, Trym.ntmps13
  go_wp2
  all_goals go_ret
  all_goals exact ⟨_, rfl, (Below.refl _ _).alloc (Nat.le_refl _) _⟩
end Go.Proofs.Qxb6612688aMods.Join
