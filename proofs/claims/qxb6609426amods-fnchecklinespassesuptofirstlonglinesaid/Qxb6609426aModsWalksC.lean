import Derived.Test.Qxb6609426aModsWalksB
import Derived.WalkKit
import Derived.Below
import Derived.WalkSmall
import Derived.RegionTactic
import Derived.Deep.QuietTactic
import Derived.BigQuiet
namespace Go.Proofs.Qxb6609426aMods.Lines
open Go.RowKit
set_option linter.unusedVariables false

set_option maxHeartbeats 400000 in
theorem check19_nil (B : Nat) (f : Nat → Int) (run : Int) (w : World) (hr0 : 0 ≤ run) (hr1 : run < 65536)
    (hrun : w.cell? ⟨B, 8, none⟩ = some (.int .i64 run)) (hfz : w.frozen? ⟨B, 8, none⟩ = false) :
    Calls Trym.prog 19 #[.pointer (some ⟨B, 0, none⟩), .slice none 0 0] w fun e w' => ∃ r q : Int, e = .returned (.int .i64 r) ∧ Answer f run 0 r q ∧ (q = run ∧ w' = w ∨ w' = w.setCell ⟨B, 8, none⟩ (.int .i64 q)) := by
  go_enter Trym.func19, Trym.ntmps19
  go_wp2_with fail
  go_loop [5] (fun t => t = .int .i64 (-run)) (fun t => 0)
  case atStart => rfl
  case round =>
    obtain rfl := hrel
    have hw : ¬ (-run + 65536 ≤ 0) := by omega
    by_cases hp : run = 0
    · subst hp
      go_wp2_with fail
      refine (last23 _ 0 0 _ _ f _ (by omega) (fun h => by omega) (fun i hi => by omega)).mono ?_
      rintro e w' ⟨⟨r, rfl, hr⟩, rfl⟩
      rcases hr with ⟨rfl, hno⟩ | ⟨i, hi, rfl, hnl, hno⟩
      · clear hno
        go_wp2
        go_ret
        exact ⟨_, _, rfl, .inr ⟨fun j hj => by rw [show j = 0 from Nat.le_zero.1 hj]; simp [st], rfl, rfl⟩, .inr (setc (by rw [st_zero]; omega))⟩
      · omega
    · have hp' : 0 < run := by omega
      go_wp2_with fail
      refine (last23 _ 0 0 _ _ f _ (by omega) (fun h => by omega) (fun i hi => by omega)).mono ?_
      rintro e w' ⟨⟨r, rfl, hr⟩, rfl⟩
      rcases hr with ⟨rfl, hno⟩ | ⟨i, hi, rfl, hnl, hno⟩
      · clear hno
        go_wp2
        go_ret
        exact ⟨_, _, rfl, .inr ⟨fun j hj => by rw [show j = 0 from Nat.le_zero.1 hj]; simp [st]; omega, rfl, rfl⟩, .inr (setc (by rw [st_zero]; omega))⟩
      · omega

set_option maxHeartbeats 400000 in
theorem zz12 (g len : Nat) (f : Nat → Int) (run : Int) (w : World) (hlen : len ≤ 1048576) (hr0 : 0 ≤ run) (hr1 : run < 65536) (hg : g < w.heap.size)
    (hc : ∀ i, i < len → w.cell? ⟨g, i, none⟩ = some (.int .u8 (f i))) :
    Calls Trym.prog 12 #[.int .i64 run, .slice (some ⟨g, 0, none⟩) len len] w fun e w' => ∃ r q : Int, e = .returned (.tuple #[.int .i64 r, .int .i64 q]) ∧ Answer f run len r q ∧ Below w.heap.size w w' := by
  have HC := hid hc
  clear hc
  go_enter Trym.func12, Trym.ntmps12
  go_wp2_with fail
  refine (check19 w.heap.size g len f run _ hlen hr0 hr1 ?_ ?_ ?_).mono ?_
  · simp
  · simp
  · intro i hi; exact (((Below.refl w.heap.size w).alloc (Nat.le_refl _) _).cell hg).trans (HC.out i hi)
  rintro e w' ⟨r, q, rfl, ha, hw⟩
  have HA := hid ha
  clear ha
  rcases hw with ⟨rfl, rfl⟩ | rfl
  · go_wp2
    go_quiet (fail)
    go_wp2
    go_ret2
    exact ⟨r, q, rfl, HA.out, below_drewN (by exact (Below.refl _ _).alloc (Nat.le_refl _) _) _⟩
  · go_wp2
    go_quiet (fail)
    go_wp2
    go_ret2
    exact ⟨r, q, rfl, HA.out, below_drewN (by first | exact (Below.refl _ _).alloc (Nat.le_refl _) _ | exact ((Below.refl _ _).alloc (Nat.le_refl _) _).setCell (by simp) _) _⟩

set_option maxHeartbeats 400000 in
theorem zz12_nil (f : Nat → Int) (run : Int) (w : World) (hr0 : 0 ≤ run) (hr1 : run < 65536) :
    Calls Trym.prog 12 #[.int .i64 run, .slice none 0 0] w fun e w' => ∃ r q : Int, e = .returned (.tuple #[.int .i64 r, .int .i64 q]) ∧ Answer f run 0 r q ∧ Below w.heap.size w w' := by
  go_enter Trym.func12, Trym.ntmps12
  go_wp2_with fail
  refine (check19_nil w.heap.size f run _ hr0 hr1 ?_ ?_).mono ?_
  · simp
  · simp
  rintro e w' ⟨r, q, rfl, ha, hw⟩
  have HA := hid ha
  clear ha
  rcases hw with ⟨rfl, rfl⟩ | rfl
  · go_wp2
    go_quiet (fail)
    go_wp2
    go_ret2
    exact ⟨r, q, rfl, HA.out, below_drewN (by exact (Below.refl _ _).alloc (Nat.le_refl _) _) _⟩
  · go_wp2
    go_quiet (fail)
    go_wp2
    go_ret2
    exact ⟨r, q, rfl, HA.out, below_drewN (by first | exact (Below.refl _ _).alloc (Nat.le_refl _) _ | exact ((Below.refl _ _).alloc (Nat.le_refl _) _).setCell (by simp) _) _⟩
end Go.Proofs.Qxb6609426aMods.Lines
