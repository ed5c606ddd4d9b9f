import Derived.Test.Qxb6612688aModsChecked
import Derived.WalkKit
import Derived.Below
import Derived.RegionTactic
import Derived.Deep.QuietTactic
import Derived.BigQuiet
import Derived.WalkSpells
import Derived.WalkLawsBesides
namespace Go.Proofs.Qxb6612688aMods.Join
open Go.RowKit
set_option linter.unusedVariables false
set_option linter.unusedSimpArgs false
theorem hid {p : Prop} (h : p) : Hid p := h

set_option maxHeartbeats 400000 in
theorem errorAt24 (g : Nat) (nm msg : ByteArray) (l c : Int) (w : World) (hc : w.cell? ⟨g, 0, none⟩ = some (.string nm)) :
    Calls Trym.prog 24 #[.agg #[.pointer (some ⟨g, 0, none⟩), .int .i64 l, .int .i64 c], .string msg] w fun e w' =>
      e = .returned (.pointer (some ⟨w.heap.size + 1, 0, none⟩)) ∧ w' = ((w.alloc (.cells #[.pointer (some ⟨g, 0, none⟩), .int .i64 l, .int .i64 c] 54)).alloc (.cells #[.string nm, .int .i64 l, .int .i64 c, .string msg] 40)).drew := by
  have hg : g < w.heap.size := by
    by_cases h : g < w.heap.size
    · exact h
    · exfalso; simp [World.cell?, Array.getElem?_eq_none (Nat.not_lt.1 h)] at hc
  have hc2 := fun o => (((Below.refl w.heap.size w).alloc (Nat.le_refl _) o).cell (p := ⟨g, 0, none⟩) hg).trans hc
  go_enter Trym.func24, Trym.ntmps24
  go_wp2
  go_region
  all_goals go_wp2
  all_goals go_ret
  all_goals exact ⟨rfl, rfl⟩


/-- What lies in the block of a '*properties'. -/
def IsProps (w : World) (P : Nat) (t a : ByteArray) (tf : Nat) (tl tc : Int) (af : Nat) (al ac : Int) : Prop :=
  w.cell? ⟨P, 0, none⟩ = some (.string t) ∧ w.cell? ⟨P, 1, none⟩ = some (.string a) ∧ w.cell? ⟨P, 2, none⟩ = some (.pointer (some ⟨tf, 0, none⟩)) ∧ w.cell? ⟨P, 3, none⟩ = some (.int .i64 tl) ∧ w.cell? ⟨P, 4, none⟩ = some (.int .i64 tc) ∧
  w.cell? ⟨P, 5, none⟩ = some (.pointer (some ⟨af, 0, none⟩)) ∧ w.cell? ⟨P, 6, none⟩ = some (.int .i64 al) ∧ w.cell? ⟨P, 7, none⟩ = some (.int .i64 ac)


theorem gb_drew {w a : World} {r : Option Nat} (h : w.grownBy a r) : w.grownBy a.drew r := ⟨h.os, h.tape, h.output, h.size, h.block⟩
theorem gb_alloc {w a : World} {r : Option Nat} (h : w.grownBy a r) (o : Obj) : w.grownBy (a.alloc o) r :=
  ⟨h.os, h.tape, h.output, by have := h.size; simp; omega, fun k hk hr => by rw [Below.heap_alloc _ _ _ (by have := h.size; omega)]; exact h.block k hk hr⟩
theorem gb_set {w a : World} {P i : Nat} (h : w.grownBy a (some P)) (v : Value) : w.grownBy (a.setCell ⟨P, i, none⟩ v) (some P) :=
  ⟨h.os, h.tape, h.output, by have := h.size; simp [World.setCell]; omega, fun k hk hr => by rw [Below.heap_setCell _ _ _ _ (by intro e; exact hr (by rw [e]))]; exact h.block k hk hr⟩

/-- 'a' where s is the empty string, else 'b'. -/
def sel {α : Type} (s : ByteArray) (a b : α) : α := if s.toList.isEmpty then a else b
theorem sel_t {α : Type} {s : ByteArray} {a b : α} (h : s.toList.isEmpty = true) : sel s a b = a := by simp [sel, h]
theorem sel_f {α : Type} {s : ByteArray} {a b : α} (h : s.toList.isEmpty = false) : sel s a b = b := by simp [sel, h]

theorem ways (a b : Bool) (h : a = true ∨ b = true) : (a = true ∧ b = false) ∨ (a = true ∧ b = true) ∨ (a = false ∧ b = true) := by cases a <;> cases b <;> simp_all

set_option maxHeartbeats 1000000 in
theorem join20_ok (P : Nat) (pt pa qt qa : ByteArray) (ptf paf qtf qaf : Nat) (pl pc pm pn ql qc qm qn : Int) (w : World) (hP : P < w.heap.size)
    (hp : IsProps w P pt pa ptf pl pc paf pm pn) (hz : ∀ i, w.frozen? ⟨P, i, none⟩ = false)
    (hT : pt.toList.isEmpty = true ∨ qt.toList.isEmpty = true) (hA : pa.toList.isEmpty = true ∨ qa.toList.isEmpty = true) :
    Calls Trym.prog 20 #[.pointer (some ⟨P, 0, none⟩), .agg #[.string qt, .string qa, .pointer (some ⟨qtf, 0, none⟩), .int .i64 ql, .int .i64 qc, .pointer (some ⟨qaf, 0, none⟩), .int .i64 qm, .int .i64 qn]] w fun e w' =>
      e = .returned .nilIface ∧ IsProps w' P (sel qt pt qt) (sel qa pa qa) (sel qt ptf qtf) (sel qt pl ql) (sel qt pc qc) (sel qa paf qaf) (sel qa pm qm) (sel qa pn qn) ∧ w.grownBy w' (some P) := by
  obtain ⟨c0, c1, c2, c3, c4, c5, c6, c7⟩ := hp
  have hT' := ways _ _ hT
  have hA' := ways _ _ hA
  clear hT hA
  rcases hT' with ⟨h1, h2⟩ | ⟨h1, h2⟩ | ⟨h1, h2⟩ <;> rcases hA' with ⟨h3, h4⟩ | ⟨h3, h4⟩ | ⟨h3, h4⟩
  all_goals
    first | rw [sel_t h2, sel_t h2, sel_t h2, sel_t h2] | rw [sel_f h2, sel_f h2, sel_f h2, sel_f h2]
    first | rw [sel_t h4, sel_t h4, sel_t h4, sel_t h4] | rw [sel_f h4, sel_f h4, sel_f h4, sel_f h4]
    go_enter Trym.func20, Trym.ntmps20
    go_wp2
    try (go_region; go_wp2)
    try (go_region; go_wp2)
    go_ret
    refine ⟨rfl, ?_, by repeat (first | with_reducible exact World.grownBy.refl _ _ | with_reducible refine gb_drew ?_ | with_reducible refine gb_alloc ?_ _ | with_reducible refine gb_set ?_ _)⟩
    simp [IsProps, go_sem, c0, c1, c2, c3, c4, c5, c6, c7, hP]
end Go.Proofs.Qxb6612688aMods.Join
