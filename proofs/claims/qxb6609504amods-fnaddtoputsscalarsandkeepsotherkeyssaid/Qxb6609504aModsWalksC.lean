/-
  THE WALK of b1Distinct.
-/
import Derived.Test.Qxb6609504aModsWalksB
import Derived.WalkKit
import Derived.Below
import Derived.Deep.QuietTactic
import Derived.BigQuiet
import Derived.WalkSpells
import Derived.WalkLawsBesides
namespace Go.Proofs.Qxb6609504aMods.Add
open Go.RowKit
set_option linter.unusedVariables false
set_option linter.unusedSimpArgs false


set_option maxHeartbeats 1000000 in
theorem distinct21 (v : Value) (n : Nat) (f : Nat → ByteArray) (w : World) (hn : n ≤ 1048576) (hv : IsStrs w v n f) :
    Calls Trym.prog 21 #[v] w fun e w' => e = .returned (.int .i64 (Tab.dist f n : Nat)) ∧ ∃ q, w' = w.drewN q := by
  obtain ⟨a, c, b, o, rfl, ha, hc⟩ := hv
  have HA := hid ha
  have HC := hid hc
  clear ha hc
  go_enter Trym.func21, Trym.ntmps21
  go_wp2_with fail
  go_loopw [3, 4] (fun x i wr => ∃ k : Nat, k ≤ n ∧ i = .int .i64 (k : Int) ∧ x = .int .i64 (Tab.dist f k : Nat) ∧ ∃ q, wr = w.drewN q) (fun _ i _ => n - (intOf i).toNat)
  case atStart => exact ⟨0, Nat.zero_le _, rfl, rfl, 0, rfl⟩
  case round =>
    obtain ⟨k, hk, rfl, rfl, q, rfl⟩ := hrel
    by_cases hlt : k < n
    · obtain rfl := HA.out (by omega)
      have hcell := HC.out k hlt
      have hd := Tab.dist_le f k
      have HO : Hid ((∃ j, j < k ∧ f j = f k) → Tab.dist f (k + 1) = Tab.dist f k) := hid (Tab.dist_old f k)
      have HW : Hid ((∀ j, j < k → f j ≠ f k) → Tab.dist f (k + 1) = Tab.dist f k + 1) := hid (Tab.dist_new f k)
      generalize Tab.dist f k = dk at *
      go_wp2_with fail
      go_loopw [5, 6] (fun x i wr => ∃ m : Nat, m ≤ k ∧ i = .int .i64 (m : Int) ∧ x = .bool true ∧ Hid (∀ j, j < m → f j ≠ f k) ∧ ∃ q, wr = w.drewN q) (fun _ i _ => k - (intOf i).toNat)
      case atStart => exact ⟨0, Nat.zero_le _, rfl, rfl, fun j hj => by omega, q, rfl⟩
      case round =>
        obtain ⟨m, hm, rfl, rfl, HN, q', rfl⟩ := hrel
        by_cases hmk : m < k
        · have hcell2 := HC.out m (by omega)
          by_cases hv : f m = f k
          · have hb := eq_true_str hv
            have HM : Hid (Tab.dist f (k + 1) = dk) := hid (HO.out ⟨m, hmk, hv⟩)
            clear hv
            go_wp2_with fail
            go_quiet (fail)
            go_wp2
            exact ⟨⟨k + 1, by omega, by go_num, by rw [HM.out], _, rfl⟩, by simp [intOf]; omega⟩
          · have hb := eq_false_str hv
            have HV := hid hv
            clear hv
            go_wp2_with fail
            go_quiet (fail)
            go_wp2
            go_roundw
            case rel => exact ⟨m + 1, by omega, by go_num, rfl, fun j hj => by
              by_cases e : j = m
              · subst e; exact HV.out
              · exact HN.out j (by omega), _, rfl⟩
            case measure => simp [intOf]; omega
        · have HM : Hid (Tab.dist f (k + 1) = dk + 1) := hid (HW.out fun j hj => HN.out j (by omega))
          go_wp2
          exact ⟨⟨k + 1, by omega, by go_num, by rw [HM.out]; go_num, _, rfl⟩, by simp [intOf]; omega⟩
    · obtain rfl : k = n := by omega
      go_wp2
      go_ret
      exact ⟨rfl, _, rfl⟩
end Go.Proofs.Qxb6609504aMods.Add
