/-
  THE WALKS of the law's own small functions that only read: b1Add, b1ListBytes, b1SameStrings, b1Last.., b1Distinct.
-/
import Derived.Test.Qxb6609504aModsMaps
import Derived.WalkKit
import Derived.Below
import Derived.Deep.QuietTactic
import Derived.BigQuiet
import Derived.WalkSpells
import Derived.WalkLawsBesides
namespace Go.Proofs.Qxb6609504aMods.Add
open Go.RowKit
set_option linter.unusedVariables false
set_option linter.unusedSimpArgs false

theorem hid {p : Prop} (h : p) : Hid p := h

/-- 'v' is a slice of 'n' strings 'f 0', .., 'f (n - 1)' (nil or not, cut or not). -/
def IsStrs (w : World) (v : Value) (n : Nat) (f : Nat → ByteArray) : Prop :=
  ∃ a c b o, v = .slice a n c ∧ (0 < n → a = some ⟨b, o, none⟩) ∧ ∀ i, i < n → w.cell? ⟨b, o + i, none⟩ = some (.string (f i))

theorem add12 (t : Int) (s : ByteArray) (w : World) : Calls Trym.prog 12 #[.int .i64 t, .string s] w fun e w' => (∃ r : Int, e = .returned (.int .i64 r)) ∧ w = w' := by
  by_cases h : 1048576 < t
  · have d : decide (1048576 < t) = true := by simpa using h
    go_enter Trym.func12, Trym.ntmps12
    go_wp2
    go_ret
    exact ⟨⟨_, rfl⟩, rfl⟩
  · have d : decide (1048576 < t) = false := by simpa using h
    go_enter Trym.func12, Trym.ntmps12
    go_wp2
    all_goals go_ret
    all_goals exact ⟨⟨_, rfl⟩, rfl⟩

set_option maxHeartbeats 400000 in
theorem listBytes8 (t : Int) (v : Value) (n : Nat) (f : Nat → ByteArray) (w : World) (hv : IsStrs w v n f) (hn : n ≤ 1048576) :
    Calls Trym.prog 8 #[.int .i64 t, v] w fun e w' => (∃ r : Int, e = .returned (.int .i64 r)) ∧ w = w' := by
  obtain ⟨a, c, b, o, rfl, ha, hc⟩ := hv
  have HA := hid ha
  have HC := hid hc
  clear ha hc
  have d2 : decide (1048576 < (n : Int)) = false := by simp; omega
  by_cases h : 1048576 < t
  · have d : decide (1048576 < t) = true := by simpa using h
    go_enter Trym.func8, Trym.ntmps8
    go_wp2
    go_ret
    exact ⟨⟨_, rfl⟩, rfl⟩
  · have d : decide (1048576 < t) = false := by simpa using h
    go_enter Trym.func8, Trym.ntmps8
    go_wp2_with fail
    go_loop [0, 5] (fun x i => ∃ k : Nat, ∃ z : Int, k ≤ n ∧ i = .int .i64 (k : Int) ∧ x = .int .i64 z) (fun _ i => n - (intOf i).toNat)
    case atStart => exact ⟨0, _, Nat.zero_le _, rfl, rfl⟩
    case round =>
      obtain ⟨k, z, hk, rfl, rfl⟩ := hrel
      by_cases hlt : k < n
      · obtain rfl := HA.out (by omega)
        have hcell := HC.out k hlt
        go_wp2_with (go_at_call 12; refine (add12 z (f k) _).mono ?_; rintro e w' ⟨⟨r, rfl⟩, rfl⟩)
        go_round
        case rel => exact ⟨k + 1, r, by omega, by go_num, rfl⟩
        case measure => simp [intOf]; omega
      · go_wp2
        go_ret
        exact ⟨⟨_, rfl⟩, rfl⟩

set_option maxHeartbeats 400000 in
theorem same10 (v u : Value) (n : Nat) (f : Nat → ByteArray) (w : World) (hn : n ≤ 1048576) (hv : IsStrs w v n f) (hu : IsStrs w u n f) :
    Calls Trym.prog 10 #[v, u] w fun e w' => e = .returned (.bool true) ∧ ∃ q, w' = w.drewN q := by
  obtain ⟨a, c, b, o, rfl, ha, hc⟩ := hv
  obtain ⟨a2, c2, b2, o2, rfl, ha2, hc2⟩ := hu
  have HA := hid ha
  have HC := hid hc
  have HA2 := hid ha2
  have HC2 := hid hc2
  clear ha hc ha2 hc2
  have d2 : ((n : Int) != (n : Int)) = false := by simp
  go_enter Trym.func10, Trym.ntmps10
  go_wp2_with fail
  go_loopw [5] (fun i wr => ∃ k : Nat, k ≤ n ∧ i = .int .i64 (k : Int) ∧ ∃ q, wr = w.drewN q) (fun i _ => n - (intOf i).toNat)
  case atStart => exact ⟨0, Nat.zero_le _, rfl, 0, rfl⟩
  case round =>
    obtain ⟨k, hk, rfl, q, rfl⟩ := hrel
    by_cases hlt : k < n
    · obtain rfl := HA.out (by omega)
      obtain rfl := HA2.out (by omega)
      have hcell := HC.out k hlt
      have hcell2 := HC2.out k hlt
      go_wp2_with fail
      go_quiet (fail)
      go_wp2
      go_roundw
      case rel => exact ⟨k + 1, by omega, by go_num, _, rfl⟩
      case measure => simp [intOf]; omega
    · go_wp2
      go_ret
      exact ⟨rfl, _, rfl⟩
end Go.Proofs.Qxb6609504aMods.Add
