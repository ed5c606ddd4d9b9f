import Derived.Test.Qxb6612688aModsWalksB
import Derived.WalkKit
import Derived.Below
import Derived.RegionTactic
import Derived.Deep.QuietTactic
import Derived.BigQuiet
import Derived.WalkSpells
import Derived.WalkLawsBesides
namespace Go.Proofs.Qxb6612688aMods.Join
open Go.RowKit
set_option linter.unusedVariables false
set_option linter.unusedSimpArgs false

theorem gb_cell {w a : World} {P k : Nat} (h : w.grownBy a (some P)) (hk : k < w.heap.size) (hne : k ≠ P) (i : Nat) : a.cell? ⟨k, i, none⟩ = w.cell? ⟨k, i, none⟩ :=
  World.cell?_of_block (w := w) (h.block k hk (by intro e; exact hne (Option.some.inj e)))
theorem gb_below {w a b : World} {P : Nat} (hb : Below w.heap.size w a) (h : a.grownBy b (some P)) (hP : w.heap.size ≤ P) : Below w.heap.size w b :=
  hb.grown h hb.size (fun k e => by rw [Option.some.inj e] at hP; exact hP)

theorem ta_nil (w : World) : (Instr.typeAssert .nilIface 58 29 true).run Trym.prog w = .ok (.tuple #[.pointer none, .bool false]) w := by kernel_rfl
theorem ta_err (a : Addr) (w : World) : (Instr.typeAssert (.iface 29 (.pointer (some a))) 58 29 true).run Trym.prog w = .ok (.tuple #[.pointer (some a), .bool true]) w := by kernel_rfl

theorem ne_nil (w : World) : (binOp .neq 58 .nilIface .nilIface).run Trym.prog w = .ok (.bool false) w := by kernel_rfl
theorem ne_err (a : Addr) (w : World) : (binOp .neq 58 (.iface 29 (.pointer (some a))) .nilIface).run Trym.prog w = .ok (.bool true) w := by kernel_rfl

set_option maxRecDepth 100000 in
set_option maxHeartbeats 1000000 in
theorem zz16_ok (pt pa pf pg qt qa qf qg : ByteArray) (pl pc pm pn ql qc qm qn : Int) (w : World)
    (hT : pt.toList.isEmpty = true ∨ qt.toList.isEmpty = true) (hA : pa.toList.isEmpty = true ∨ qa.toList.isEmpty = true) :
    Calls Trym.prog 16 #[.string pt, .string pa, .string pf, .int .i64 pl, .int .i64 pc, .string pg, .int .i64 pm, .int .i64 pn, .string qt, .string qa, .string qf, .int .i64 ql, .int .i64 qc, .string qg, .int .i64 qm, .int .i64 qn] w fun e w' =>
      e = .returned (.tuple #[.string (sel qt pt qt), .string (sel qa pa qa), .string (sel qt pf qf), .int .i64 (sel qt pl ql), .int .i64 (sel qt pc qc), .string (sel qa pg qg), .int .i64 (sel qa pm qm), .int .i64 (sel qa pn qn), .bool false, .pointer none]) ∧ Below w.heap.size w w' := by
  have HT : Hid (pt.toList.isEmpty = true ∨ qt.toList.isEmpty = true) := hT
  have HA : Hid (pa.toList.isEmpty = true ∨ qa.toList.isEmpty = true) := hA
  clear hT hA
  go_enter Trym.func16, Trym.ntmps16
  go_wp2_with fail
  refine (join20_ok (w.heap.size + 1 + 1) pt pa qt qa w.heap.size (w.heap.size + 1) (w.heap.size + 1 + 1 + 1) (w.heap.size + 1 + 1 + 1 + 1) pl pc pm pn ql qc qm qn _ ?_ ?_ ?_ HT.out HA.out).mono ?_
  · simp
  · simp [IsProps, go_sem]
  · intro i; simp [go_sem]
  rintro e w1 ⟨rfl, hp, hg⟩
  have k0 := gb_cell hg (k := w.heap.size) (by simp; omega) (by omega) 0
  have k1 := gb_cell hg (k := w.heap.size + 1) (by simp) (by omega) 0
  have k3 := gb_cell hg (k := w.heap.size + 1 + 1 + 1) (by simp) (by omega) 0
  have k4 := gb_cell hg (k := w.heap.size + 1 + 1 + 1 + 1) (by simp) (by omega) 0
  have hB := gb_below (w := w) (by
    refine Below.alloc ?_ (by simp; omega) _
    refine Below.alloc ?_ (by simp; omega) _
    refine Below.alloc ?_ (by simp; omega) _
    refine Below.alloc ?_ (by simp; omega) _
    refine Below.alloc ?_ (by simp) _
    refine Below.alloc ?_ (by simp) _
    exact Below.refl _ _) hg (by omega)
  simp [go_sem] at k0 k1 k3 k4
  clear hg
  have j1 : w1.cell? ⟨sel qt w.heap.size (w.heap.size + 1 + 1 + 1), 0, none⟩ = some (.string (sel qt pf qf)) := by unfold sel; split <;> assumption
  have j2 : w1.cell? ⟨sel qa (w.heap.size + 1) (w.heap.size + 1 + 1 + 1 + 1), 0, none⟩ = some (.string (sel qa pg qg)) := by unfold sel; split <;> assumption
  obtain ⟨c0, c1, c2, c3, c4, c5, c6, c7⟩ := hp
  clear k0 k1 k3 k4
  have hta := ta_nil
  have hne := ne_nil
  go_wp2
  go_quiet (fail)
  go_wp2
  exact bodyPost_ret (v := .tuple #[.string (sel qt pt qt), .string (sel qa pa qa), .string (sel qt pf qf), .int .i64 (sel qt pl ql), .int .i64 (sel qt pc qc), .string (sel qa pg qg), .int .i64 (sel qa pm qm), .int .i64 (sel qa pn qn), .bool false, .pointer none]) (by simp [results, Trym.results16, go_sem]) rfl ⟨rfl, below_drewN hB _⟩

set_option maxRecDepth 100000 in
set_option maxHeartbeats 1000000 in
theorem zz16_fail (pt pa pf pg qt qa qf qg nm : ByteArray) (pl pc pm pn ql qc qm qn l c : Int) (w : World)
    (hJ : Hid (∀ (W : World) (P tf af : Nat), P < W.heap.size → W.cell? ⟨P, 0, none⟩ = some (.string pt) → W.cell? ⟨P, 1, none⟩ = some (.string pa) → W.cell? ⟨tf, 0, none⟩ = some (.string qf) → W.cell? ⟨af, 0, none⟩ = some (.string qg) →
      Calls Trym.prog 20 #[.pointer (some ⟨P, 0, none⟩), .agg #[.string qt, .string qa, .pointer (some ⟨tf, 0, none⟩), .int .i64 ql, .int .i64 qc, .pointer (some ⟨af, 0, none⟩), .int .i64 qm, .int .i64 qn]] W fun e w' =>
        e = .returned (.iface 29 (.pointer (some ⟨W.heap.size + 2, 0, none⟩))) ∧ IsErr w' (W.heap.size + 2) nm l c ∧ W.heap.size + 2 < w'.heap.size ∧ Below W.heap.size W w')) :
    Calls Trym.prog 16 #[.string pt, .string pa, .string pf, .int .i64 pl, .int .i64 pc, .string pg, .int .i64 pm, .int .i64 pn, .string qt, .string qa, .string qf, .int .i64 ql, .int .i64 qc, .string qg, .int .i64 qm, .int .i64 qn] w fun e w' =>
      ∃ E, e = .returned (.tuple #[.string pt, .string pa, .string pf, .int .i64 pl, .int .i64 pc, .string pg, .int .i64 pm, .int .i64 pn, .bool true, .pointer (some ⟨E, 0, none⟩)]) ∧ IsErr w' E nm l c ∧ w.heap.size ≤ E ∧ E < w'.heap.size ∧ Below w.heap.size w w' := by
  go_enter Trym.func16, Trym.ntmps16
  go_wp2_with fail
  refine (hJ.out _ (w.heap.size + 1 + 1) (w.heap.size + 1 + 1 + 1) (w.heap.size + 1 + 1 + 1 + 1) ?_ ?_ ?_ ?_ ?_).mono ?_
  · simp
  · simp [go_sem]
  · simp [go_sem]
  · simp [go_sem]
  · simp [go_sem]
  rintro e w1 ⟨rfl, he, hE, hb⟩
  have k0 := hb.cell (p := ⟨w.heap.size, 0, none⟩) (by simp; omega)
  have k1 := hb.cell (p := ⟨w.heap.size + 1, 0, none⟩) (by simp)
  have c0 := hb.cell (p := ⟨w.heap.size + 1 + 1, 0, none⟩) (by simp)
  have c1 := hb.cell (p := ⟨w.heap.size + 1 + 1, 1, none⟩) (by simp)
  have c2 := hb.cell (p := ⟨w.heap.size + 1 + 1, 2, none⟩) (by simp)
  have c3 := hb.cell (p := ⟨w.heap.size + 1 + 1, 3, none⟩) (by simp)
  have c4 := hb.cell (p := ⟨w.heap.size + 1 + 1, 4, none⟩) (by simp)
  have c5 := hb.cell (p := ⟨w.heap.size + 1 + 1, 5, none⟩) (by simp)
  have c6 := hb.cell (p := ⟨w.heap.size + 1 + 1, 6, none⟩) (by simp)
  have c7 := hb.cell (p := ⟨w.heap.size + 1 + 1, 7, none⟩) (by simp)
  have hB : Below w.heap.size w w1 := Below.trans (by
    refine Below.alloc ?_ (by simp; omega) _
    refine Below.alloc ?_ (by simp; omega) _
    refine Below.alloc ?_ (by simp; omega) _
    refine Below.alloc ?_ (by simp; omega) _
    refine Below.alloc ?_ (by simp) _
    refine Below.alloc ?_ (by simp) _
    exact Below.refl _ _) (hb.mono (by simp; omega))
  simp [go_sem] at k0 k1 c0 c1 c2 c3 c4 c5 c6 c7 hE
  have HE : Hid (IsErr w1 (w.heap.size + 1 + 1 + 1 + 1 + 1 + 1 + 2) nm l c) := hid (by simpa using he)
  clear hb he hJ
  have hta := ta_err
  have hne := ne_err
  go_wp2
  go_quiet (fail)
  go_wp2
  refine bodyPost_ret (v := .tuple #[.string pt, .string pa, .string pf, .int .i64 pl, .int .i64 pc, .string pg, .int .i64 pm, .int .i64 pn, .bool true, .pointer (some ⟨w.heap.size + 1 + 1 + 1 + 1 + 1 + 1 + 2, 0, none⟩)]) (by simp [results, Trym.results16, go_sem]) rfl ⟨_, rfl, HE.out, by omega, ?_, below_drewN hB _⟩
  show _ < w1.heap.size
  omega
end Go.Proofs.Qxb6612688aMods.Join
