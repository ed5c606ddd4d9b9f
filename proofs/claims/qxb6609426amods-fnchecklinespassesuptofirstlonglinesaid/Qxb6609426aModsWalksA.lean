/-
  THE WALKS of bytealg.LastIndexByte and bytes.LastIndexByte, at a slice of bytes that is read and not written.
-/
import Derived.Test.Qxb6609426aModsChecked
import Derived.Test.Qxb6609426aModsPlain
import Derived.WalkKit
import Derived.Below
namespace Go.Proofs.Qxb6609426aMods.Lines
open Go.RowKit
set_option linter.unusedVariables false

/-- What LastIndexByte finds among 'f 0', .., 'f (len - 1)'. -/
def Found (f : Nat → Int) (len : Nat) (r : Int) : Prop :=
  (r = -1 ∧ ∀ j, j < len → f j ≠ 10) ∨ ∃ i : Nat, i < len ∧ r = (i : Int) ∧ f i = 10 ∧ ∀ j, i < j → j < len → f j ≠ 10

set_option maxHeartbeats 400000 in
theorem last27 (b o len cap : Nat) (f : Nat → Int) (w : World) (hlen : len ≤ 1048576)
    (hc : ∀ i, i < len → w.cell? ⟨b, o + i, none⟩ = some (.int .u8 (f i))) :
    Calls Trym.prog 27 #[.slice (some ⟨b, o, none⟩) len cap, .int .u8 10] w fun e w' => (∃ r : Int, e = .returned (.int .i64 r) ∧ Found f len r) ∧ w = w' := by
  have HC : Hid (∀ i, i < len → w.cell? ⟨b, o + i, none⟩ = some (.int .u8 (f i))) := hc
  clear hc
  go_enter Trym.func27, Trym.ntmps27
  go_wp2
  go_loop [5] (fun t => ∃ k : Nat, k ≤ len ∧ t = .int .i64 ((k : Int) - 1) ∧ Hid (∀ j, k ≤ j → j < len → f j ≠ 10)) (fun t => (intOf t + 1).toNat)
  case atStart => exact ⟨len, Nat.le_refl _, rfl, fun j h1 h2 => by omega⟩
  case round =>
    obtain ⟨k, hk, rfl, HN⟩ := hrel
    by_cases h0 : k = 0
    · subst h0
      go_wp2
      go_ret
      exact ⟨⟨-1, rfl, .inl ⟨rfl, fun j hj => HN.out j (Nat.zero_le _) hj⟩⟩, rfl⟩
    · obtain ⟨q, rfl⟩ : ∃ q, k = q + 1 := ⟨k - 1, by omega⟩
      have hcell := HC.out q (by omega)
      rw [show (((q + 1 : Nat) : Int) - 1) = (q : Int) by omega]
      by_cases hv : f q = 10
      · have hb : (f q == 10) = true := by simp [hv]
        have HV : Hid (f q = 10) := hv
        clear hv
        go_wp2
        go_ret
        exact ⟨⟨_, rfl, .inr ⟨q, by omega, rfl, HV.out, fun j h1 h2 => HN.out j (by omega) h2⟩⟩, rfl⟩
      · have hb : (f q == 10) = false := by simp [hv]
        have HV : Hid (¬ f q = 10) := hv
        clear hv
        go_wp2
        go_round
        case rel => exact ⟨q, by omega, rfl, fun j h1 h2 => by
          by_cases e : j = q
          · subst e; exact HV.out
          · exact HN.out j (by omega) h2⟩
        case measure => simp [intOf]

set_option maxHeartbeats 400000 in
theorem last27_none (a : Option Addr) (cap : Nat) (w : World) :
    Calls Trym.prog 27 #[.slice a 0 cap, .int .u8 10] w fun e w' => e = .returned (.int .i64 (-1)) ∧ w = w' := by
  go_enter Trym.func27, Trym.ntmps27
  go_wp2
  go_loop [5] (fun t => t = .int .i64 (-1)) (fun t => 0)
  case atStart => rfl
  case round =>
    obtain rfl := hrel
    go_wp2
    go_ret
    exact ⟨rfl, rfl⟩

set_option maxHeartbeats 400000 in
theorem last23 (a : Option Addr) (b o len cap : Nat) (f : Nat → Int) (w : World) (hlen : len ≤ 1048576) (ha : 0 < len → a = some ⟨b, o, none⟩)
    (hc : ∀ i, i < len → w.cell? ⟨b, o + i, none⟩ = some (.int .u8 (f i))) :
    Calls Trym.prog 23 #[.slice a len cap, .int .u8 10] w fun e w' => (∃ r : Int, e = .returned (.int .i64 r) ∧ Found f len r) ∧ w = w' := by
  by_cases h0 : len = 0
  · subst h0
    clear hc ha
    go_enter Trym.func23, Trym.ntmps23
    go_wp2_with (go_at_call 27; refine (last27_none _ _ _).mono ?_; rintro e w' ⟨rfl, rfl⟩)
    go_ret
    exact ⟨⟨_, rfl, .inl ⟨rfl, fun j hj => by omega⟩⟩, rfl⟩
  · obtain rfl := ha (by omega)
    clear h0 ha
    go_enter Trym.func23, Trym.ntmps23
    go_wp2_with (go_at_call 27; refine (last27 b o len cap f _ hlen hc).mono ?_; rintro e w' ⟨⟨r, rfl, hr⟩, rfl⟩)
    go_ret
    exact ⟨⟨_, rfl, hr⟩, rfl⟩

end Go.Proofs.Qxb6609426aMods.Lines
