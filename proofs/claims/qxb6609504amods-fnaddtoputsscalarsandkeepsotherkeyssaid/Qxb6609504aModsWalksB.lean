/-
  THE WALKS of b1LastList, b1LastInt, b1LastBool, b1LastStr (one text, four types) and of b1Distinct.
-/
import Derived.Test.Qxb6609504aModsWalksA
import Derived.WalkKit
import Derived.Below
import Derived.Deep.QuietTactic
import Derived.BigQuiet
import Derived.WalkSpells
import Derived.WalkLawsBesides
namespace Go.Proofs.Qxb6609504aMods.Add
open Go.RowKit
set_option linter.unusedVariables false
set_option linter.unusedSimpArgs false

/-- 'v' is a slice of 'n' structs of two cells: the strings 'f i' and the values 'g i'. -/
def IsPairs (w : World) (v : Value) (n : Nat) (f : Nat → ByteArray) (g : Nat → Value) : Prop :=
  ∃ a c b o, v = .slice a n c ∧ (0 < n → a = some ⟨b, o, none⟩) ∧ ∀ i, i < n → w.cell? ⟨b, o + i * 2, none⟩ = some (.string (f i)) ∧ w.cell? ⟨b, o + i * 2 + 1, none⟩ = some (g i)

/-- 'r' is the last place of 'k' among 'f 0', .., 'f (n - 1)', or -1. -/
def LastAt (f : Nat → ByteArray) (n : Nat) (k : ByteArray) (r : Int) : Prop :=
  (r = -1 ∧ ∀ j, j < n → f j ≠ k) ∨ ∃ i : Nat, i < n ∧ r = (i : Int) ∧ f i = k ∧ ∀ j, i < j → j < n → f j ≠ k

theorem eq_true_str {a b : ByteArray} (h : a = b) : (a.toList == b.toList) = true := by rw [h]; simp
theorem eq_false_str {a b : ByteArray} (h : ¬ a = b) : (a.toList == b.toList) = false := by
  rw [← beq_toListBytes, beq_str]; exact decide_eq_false h

set_option maxHeartbeats 400000 in
theorem last19 (v : Value) (n : Nat) (f : Nat → ByteArray) (g : Nat → Value) (k : ByteArray) (w : World) (hn : n ≤ 1048576) (hv : IsPairs w v n f g) :
    Calls Trym.prog 19 #[v, .string k] w fun e w' => (∃ r : Int, e = .returned (.int .i64 r) ∧ LastAt f n k r) ∧ w = w' := by
  obtain ⟨a, c, b, o, rfl, ha, hc⟩ := hv
  have HA := hid ha
  have HC := hid hc
  clear ha hc
  go_enter Trym.func19, Trym.ntmps19
  go_wp2
  go_loop [5] (fun t => ∃ q : Nat, q ≤ n ∧ t = .int .i64 ((q : Int) - 1) ∧ Hid (∀ j, q ≤ j → j < n → f j ≠ k)) (fun t => (intOf t + 1).toNat)
  case atStart => exact ⟨n, Nat.le_refl _, rfl, fun j h1 h2 => by omega⟩
  case round =>
    obtain ⟨q, hq, rfl, HN⟩ := hrel
    by_cases h0 : q = 0
    · subst h0
      go_wp2
      go_ret
      exact ⟨⟨-1, rfl, .inl ⟨rfl, fun j hj => HN.out j (Nat.zero_le _) hj⟩⟩, rfl⟩
    · obtain ⟨m, rfl⟩ : ∃ m, q = m + 1 := ⟨q - 1, by omega⟩
      obtain rfl := HA.out (by omega)
      have hcell := (HC.out m (by omega)).1
      rw [show (((m + 1 : Nat) : Int) - 1) = (m : Int) by omega]
      by_cases hv : f m = k
      · have hb := eq_true_str hv
        have HV := hid hv
        clear hv
        go_wp2
        go_ret
        exact ⟨⟨_, rfl, .inr ⟨m, by omega, rfl, HV.out, fun j h1 h2 => HN.out j (by omega) h2⟩⟩, rfl⟩
      · have hb := eq_false_str hv
        have HV := hid hv
        clear hv
        go_wp2
        go_round
        case rel => exact ⟨m, by omega, rfl, fun j h1 h2 => by
          by_cases e : j = m
          · subst e; exact HV.out
          · exact HN.out j (by omega) h2⟩
        case measure => simp [intOf]

set_option maxHeartbeats 400000 in
theorem last20 (v : Value) (n : Nat) (f : Nat → ByteArray) (g : Nat → Value) (k : ByteArray) (w : World) (hn : n ≤ 1048576) (hv : IsPairs w v n f g) :
    Calls Trym.prog 20 #[v, .string k] w fun e w' => (∃ r : Int, e = .returned (.int .i64 r) ∧ LastAt f n k r) ∧ w = w' := by
  obtain ⟨a, c, b, o, rfl, ha, hc⟩ := hv
  have HA := hid ha
  have HC := hid hc
  clear ha hc
  go_enter Trym.func20, Trym.ntmps20
  go_wp2
  go_loop [5] (fun t => ∃ q : Nat, q ≤ n ∧ t = .int .i64 ((q : Int) - 1) ∧ Hid (∀ j, q ≤ j → j < n → f j ≠ k)) (fun t => (intOf t + 1).toNat)
  case atStart => exact ⟨n, Nat.le_refl _, rfl, fun j h1 h2 => by omega⟩
  case round =>
    obtain ⟨q, hq, rfl, HN⟩ := hrel
    by_cases h0 : q = 0
    · subst h0
      go_wp2
      go_ret
      exact ⟨⟨-1, rfl, .inl ⟨rfl, fun j hj => HN.out j (Nat.zero_le _) hj⟩⟩, rfl⟩
    · obtain ⟨m, rfl⟩ : ∃ m, q = m + 1 := ⟨q - 1, by omega⟩
      obtain rfl := HA.out (by omega)
      have hcell := (HC.out m (by omega)).1
      rw [show (((m + 1 : Nat) : Int) - 1) = (m : Int) by omega]
      by_cases hv : f m = k
      · have hb := eq_true_str hv
        have HV := hid hv
        clear hv
        go_wp2
        go_ret
        exact ⟨⟨_, rfl, .inr ⟨m, by omega, rfl, HV.out, fun j h1 h2 => HN.out j (by omega) h2⟩⟩, rfl⟩
      · have hb := eq_false_str hv
        have HV := hid hv
        clear hv
        go_wp2
        go_round
        case rel => exact ⟨m, by omega, rfl, fun j h1 h2 => by
          by_cases e : j = m
          · subst e; exact HV.out
          · exact HN.out j (by omega) h2⟩
        case measure => simp [intOf]

set_option maxHeartbeats 400000 in
theorem last24 (v : Value) (n : Nat) (f : Nat → ByteArray) (g : Nat → Value) (k : ByteArray) (w : World) (hn : n ≤ 1048576) (hv : IsPairs w v n f g) :
    Calls Trym.prog 24 #[v, .string k] w fun e w' => (∃ r : Int, e = .returned (.int .i64 r) ∧ LastAt f n k r) ∧ w = w' := by
  obtain ⟨a, c, b, o, rfl, ha, hc⟩ := hv
  have HA := hid ha
  have HC := hid hc
  clear ha hc
  go_enter Trym.func24, Trym.ntmps24
  go_wp2
  go_loop [5] (fun t => ∃ q : Nat, q ≤ n ∧ t = .int .i64 ((q : Int) - 1) ∧ Hid (∀ j, q ≤ j → j < n → f j ≠ k)) (fun t => (intOf t + 1).toNat)
  case atStart => exact ⟨n, Nat.le_refl _, rfl, fun j h1 h2 => by omega⟩
  case round =>
    obtain ⟨q, hq, rfl, HN⟩ := hrel
    by_cases h0 : q = 0
    · subst h0
      go_wp2
      go_ret
      exact ⟨⟨-1, rfl, .inl ⟨rfl, fun j hj => HN.out j (Nat.zero_le _) hj⟩⟩, rfl⟩
    · obtain ⟨m, rfl⟩ : ∃ m, q = m + 1 := ⟨q - 1, by omega⟩
      obtain rfl := HA.out (by omega)
      have hcell := (HC.out m (by omega)).1
      rw [show (((m + 1 : Nat) : Int) - 1) = (m : Int) by omega]
      by_cases hv : f m = k
      · have hb := eq_true_str hv
        have HV := hid hv
        clear hv
        go_wp2
        go_ret
        exact ⟨⟨_, rfl, .inr ⟨m, by omega, rfl, HV.out, fun j h1 h2 => HN.out j (by omega) h2⟩⟩, rfl⟩
      · have hb := eq_false_str hv
        have HV := hid hv
        clear hv
        go_wp2
        go_round
        case rel => exact ⟨m, by omega, rfl, fun j h1 h2 => by
          by_cases e : j = m
          · subst e; exact HV.out
          · exact HN.out j (by omega) h2⟩
        case measure => simp [intOf]

set_option maxHeartbeats 400000 in
theorem last25 (v : Value) (n : Nat) (f : Nat → ByteArray) (g : Nat → Value) (k : ByteArray) (w : World) (hn : n ≤ 1048576) (hv : IsPairs w v n f g) :
    Calls Trym.prog 25 #[v, .string k] w fun e w' => (∃ r : Int, e = .returned (.int .i64 r) ∧ LastAt f n k r) ∧ w = w' := by
  obtain ⟨a, c, b, o, rfl, ha, hc⟩ := hv
  have HA := hid ha
  have HC := hid hc
  clear ha hc
  go_enter Trym.func25, Trym.ntmps25
  go_wp2
  go_loop [5] (fun t => ∃ q : Nat, q ≤ n ∧ t = .int .i64 ((q : Int) - 1) ∧ Hid (∀ j, q ≤ j → j < n → f j ≠ k)) (fun t => (intOf t + 1).toNat)
  case atStart => exact ⟨n, Nat.le_refl _, rfl, fun j h1 h2 => by omega⟩
  case round =>
    obtain ⟨q, hq, rfl, HN⟩ := hrel
    by_cases h0 : q = 0
    · subst h0
      go_wp2
      go_ret
      exact ⟨⟨-1, rfl, .inl ⟨rfl, fun j hj => HN.out j (Nat.zero_le _) hj⟩⟩, rfl⟩
    · obtain ⟨m, rfl⟩ : ∃ m, q = m + 1 := ⟨q - 1, by omega⟩
      obtain rfl := HA.out (by omega)
      have hcell := (HC.out m (by omega)).1
      rw [show (((m + 1 : Nat) : Int) - 1) = (m : Int) by omega]
      by_cases hv : f m = k
      · have hb := eq_true_str hv
        have HV := hid hv
        clear hv
        go_wp2
        go_ret
        exact ⟨⟨_, rfl, .inr ⟨m, by omega, rfl, HV.out, fun j h1 h2 => HN.out j (by omega) h2⟩⟩, rfl⟩
      · have hb := eq_false_str hv
        have HV := hid hv
        clear hv
        go_wp2
        go_round
        case rel => exact ⟨m, by omega, rfl, fun j h1 h2 => by
          by_cases e : j = m
          · subst e; exact HV.out
          · exact HN.out j (by omega) h2⟩
        case measure => simp [intOf]

end Go.Proofs.Qxb6609504aMods.Add
