import Derived.Test.Qxb6612688aModsWalksC
import Derived.WalkKit
import Derived.Below
import Derived.RegionTactic
import Derived.Deep.QuietTactic
import Derived.BigQuiet
import Derived.WalkSpells
import Derived.WalkLawsBesides
namespace Go.Proofs.Qxb6612688aMods.Join
open Go.RowKit
set_option linter.unusedVariables false
set_option linter.unusedSimpArgs false

set_option maxRecDepth 100000 in
set_option maxHeartbeats 1000000 in
theorem run10 (pt pa pf pg qt qa qf qg : ByteArray) (pl pc pm pn ql qc qm qn : Int) (t a f g : ByteArray) (l c m n : Int) (b : Bool) (R : Nat → Option Addr → World → Prop) (w : World)
    (hJ : Hid (∀ W, Calls Trym.prog 16 #[.string pt, .string pa, .string pf, .int .i64 pl, .int .i64 pc, .string pg, .int .i64 pm, .int .i64 pn, .string qt, .string qa, .string qf, .int .i64 ql, .int .i64 qc, .string qg, .int .i64 qm, .int .i64 qn] W fun e w' => ∃ x, e = .returned (.tuple #[.string t, .string a, .string f, .int .i64 l, .int .i64 c, .string g, .int .i64 m, .int .i64 n, .bool b, .pointer x]) ∧ R W.heap.size x w' ∧ Below W.heap.size W w')) :
    Calls Trym.prog 10 #[.agg #[.string pt, .string pa, .string pf, .int .i64 pl, .int .i64 pc, .string pg, .int .i64 pm, .int .i64 pn], .agg #[.string qt, .string qa, .string qf, .int .i64 ql, .int .i64 qc, .string qg, .int .i64 qm, .int .i64 qn]] w fun e w' =>
      ∃ x w1 B, e = .returned (.agg #[.string t, .string a, .string f, .int .i64 l, .int .i64 c, .string g, .int .i64 m, .int .i64 n, .bool b, .pointer x]) ∧ R B x w1 ∧ w.heap.size + 2 < B ∧ w1.grownBy w' (some (w.heap.size + 2)) ∧ Below w.heap.size w w' := by
  go_enter Trym.func10, Trym.ntmps10
  go_wp2_with fail
  refine (hJ.out _).mono ?_
  rintro e w1 ⟨x, rfl, hx, hb⟩
  have HX : Hid (R (w.heap.size + 1 + 1 + 1) x w1) := hid (by simpa using hx)
  have hB : Below w.heap.size w w1 := Below.trans (by
    refine Below.alloc ?_ (by simp; omega) _
    refine Below.alloc ?_ (by simp) _
    refine Below.alloc ?_ (by simp) _
    exact Below.refl _ _) (hb.mono (by simp; omega))
  have hs : w.heap.size + 1 + 1 < w1.heap.size := by have := hb.size; simp at this; omega
  have c0 := hb.cell (p := ⟨w.heap.size + 1 + 1, 0, none⟩) (by simp)
  have z0 := hb.frozen (p := ⟨w.heap.size + 1 + 1, 0, none⟩) (by simp)
  have c1 := hb.cell (p := ⟨w.heap.size + 1 + 1, 1, none⟩) (by simp)
  have z1 := hb.frozen (p := ⟨w.heap.size + 1 + 1, 1, none⟩) (by simp)
  have c2 := hb.cell (p := ⟨w.heap.size + 1 + 1, 2, none⟩) (by simp)
  have z2 := hb.frozen (p := ⟨w.heap.size + 1 + 1, 2, none⟩) (by simp)
  have c3 := hb.cell (p := ⟨w.heap.size + 1 + 1, 3, none⟩) (by simp)
  have z3 := hb.frozen (p := ⟨w.heap.size + 1 + 1, 3, none⟩) (by simp)
  have c4 := hb.cell (p := ⟨w.heap.size + 1 + 1, 4, none⟩) (by simp)
  have z4 := hb.frozen (p := ⟨w.heap.size + 1 + 1, 4, none⟩) (by simp)
  have c5 := hb.cell (p := ⟨w.heap.size + 1 + 1, 5, none⟩) (by simp)
  have z5 := hb.frozen (p := ⟨w.heap.size + 1 + 1, 5, none⟩) (by simp)
  have c6 := hb.cell (p := ⟨w.heap.size + 1 + 1, 6, none⟩) (by simp)
  have z6 := hb.frozen (p := ⟨w.heap.size + 1 + 1, 6, none⟩) (by simp)
  have c7 := hb.cell (p := ⟨w.heap.size + 1 + 1, 7, none⟩) (by simp)
  have z7 := hb.frozen (p := ⟨w.heap.size + 1 + 1, 7, none⟩) (by simp)
  have c8 := hb.cell (p := ⟨w.heap.size + 1 + 1, 8, none⟩) (by simp)
  have z8 := hb.frozen (p := ⟨w.heap.size + 1 + 1, 8, none⟩) (by simp)
  have c9 := hb.cell (p := ⟨w.heap.size + 1 + 1, 9, none⟩) (by simp)
  have z9 := hb.frozen (p := ⟨w.heap.size + 1 + 1, 9, none⟩) (by simp)
  simp [go_sem] at c0 c1 c2 c3 c4 c5 c6 c7 c8 c9 z0 z1 z2 z3 z4 z5 z6 z7 z8 z9
  clear hb hx hJ
  go_wp2
  refine bodyPost_ret (v := .agg #[.string t, .string a, .string f, .int .i64 l, .int .i64 c, .string g, .int .i64 m, .int .i64 n, .bool b, .pointer x]) (by simp [results, Trym.results10, go_sem, c0, c1, c2, c3, c4, c5, c6, c7, c8, c9]) rfl ⟨x, w1, _, rfl, HX.out, by omega, ?_, ?_⟩
  · repeat (first | with_reducible exact World.grownBy.refl _ _ | with_reducible refine gb_set ?_ _)
  · repeat (first | with_reducible exact hB | with_reducible refine Below.setCell ?_ (by dsimp only; omega) _)
end Go.Proofs.Qxb6612688aMods.Join
