import Derived.Test.Qxb6612688aModsWalksA
import Derived.WalkKit
import Derived.Below
import Derived.RegionTactic
import Derived.Deep.QuietTactic
import Derived.BigQuiet
import Derived.WalkSpells
import Derived.WalkLawsBesides
namespace Go.Proofs.Qxb6612688aMods.Join
open Go.RowKit
set_option linter.unusedVariables false
set_option linter.unusedSimpArgs false

/-- What lies in the block of an '*Error'. -/
def IsErr (w : World) (E : Nat) (nm : ByteArray) (l c : Int) : Prop :=
  w.cell? ⟨E, 0, none⟩ = some (.string nm) ∧ w.cell? ⟨E, 1, none⟩ = some (.int .i64 l) ∧ w.cell? ⟨E, 2, none⟩ = some (.int .i64 c)

theorem lt_of_cell {w : World} {g i : Nat} {v : Value} (hc : w.cell? ⟨g, i, none⟩ = some v) : g < w.heap.size := by
  by_cases h : g < w.heap.size
  · exact h
  · exfalso; simp [World.cell?, Array.getElem?_eq_none (Nat.not_lt.1 h)] at hc

set_option maxHeartbeats 1000000 in
theorem join20_tag (P : Nat) (pt qt qa nm : ByteArray) (qtf qaf : Nat) (ql qc qm qn : Int) (w : World) (hP : P < w.heap.size)
    (c0 : w.cell? ⟨P, 0, none⟩ = some (.string pt)) (hc : w.cell? ⟨qtf, 0, none⟩ = some (.string nm))
    (h1 : pt.toList.isEmpty = false) (h2 : qt.toList.isEmpty = false) :
    Calls Trym.prog 20 #[.pointer (some ⟨P, 0, none⟩), .agg #[.string qt, .string qa, .pointer (some ⟨qtf, 0, none⟩), .int .i64 ql, .int .i64 qc, .pointer (some ⟨qaf, 0, none⟩), .int .i64 qm, .int .i64 qn]] w fun e w' =>
      e = .returned (.iface 29 (.pointer (some ⟨w.heap.size + 2, 0, none⟩))) ∧ IsErr w' (w.heap.size + 2) nm ql qc ∧ w.heap.size + 2 < w'.heap.size ∧ Below w.heap.size w w' := by
  have hg := lt_of_cell hc
  go_enter Trym.func20, Trym.ntmps20
  go_wp2_with (go_at_call 24; refine (errorAt24 qtf nm _ ql qc _ ?_).mono ?_; exact (((Below.refl w.heap.size w).alloc (Nat.le_refl _) _).cell (p := ⟨qtf, 0, none⟩) hg).trans hc; rintro e w' ⟨rfl, rfl⟩)
  go_ret
  exact ⟨rfl, by simp [IsErr, go_sem], by simp, ((((Below.refl _ _).alloc (Nat.le_refl _) _).alloc (by simp) _).alloc (by simp; omega) _).drew⟩

set_option maxHeartbeats 1000000 in
theorem join20_anchor (P : Nat) (pt pa qt qa nm : ByteArray) (qtf qaf : Nat) (ql qc qm qn : Int) (w : World) (hP : P < w.heap.size)
    (c0 : w.cell? ⟨P, 0, none⟩ = some (.string pt)) (c1 : w.cell? ⟨P, 1, none⟩ = some (.string pa)) (hc : w.cell? ⟨qaf, 0, none⟩ = some (.string nm))
    (hT : pt.toList.isEmpty = true ∨ qt.toList.isEmpty = true) (h1 : pa.toList.isEmpty = false) (h2 : qa.toList.isEmpty = false) :
    Calls Trym.prog 20 #[.pointer (some ⟨P, 0, none⟩), .agg #[.string qt, .string qa, .pointer (some ⟨qtf, 0, none⟩), .int .i64 ql, .int .i64 qc, .pointer (some ⟨qaf, 0, none⟩), .int .i64 qm, .int .i64 qn]] w fun e w' =>
      e = .returned (.iface 29 (.pointer (some ⟨w.heap.size + 2, 0, none⟩))) ∧ IsErr w' (w.heap.size + 2) nm qm qn ∧ w.heap.size + 2 < w'.heap.size ∧ Below w.heap.size w w' := by
  have hg := lt_of_cell hc
  have hT' := ways _ _ hT
  clear hT
  rcases hT' with ⟨h3, h4⟩ | ⟨h3, h4⟩ | ⟨h3, h4⟩
  all_goals
    go_enter Trym.func20, Trym.ntmps20
    go_wp2_with (go_at_call 24; refine (errorAt24 qaf nm _ qm qn _ ?_).mono ?_; exact (((Below.refl w.heap.size w).alloc (Nat.le_refl _) _).cell (p := ⟨qaf, 0, none⟩) hg).trans hc; rintro e w' ⟨rfl, rfl⟩)
    go_ret
    exact ⟨rfl, by simp [IsErr, go_sem], by simp, ((((Below.refl _ _).alloc (Nat.le_refl _) _).alloc (by simp) _).alloc (by simp; omega) _).drew⟩

end Go.Proofs.Qxb6612688aMods.Join
