import Derived.Test.Qxb6612521aModsChecked
import Derived.Test.Qxb6612521aModsWalksA
import Derived.WalkKit
import Derived.Below
namespace Go.Proofs.Qxb6612521aMods.Fill
open Go.RowKit
set_option linter.unusedVariables false

theorem hid {p : Prop} (h : p) : Hid p := h
/-- The blocks of one entry. -/
theorem blocks_of (s : Int) (h0 : 0 ≤ s) (h1 : s ≤ 1099511627776) : 512 + s + (-s) % 512 = (1 + (s + 511) / 512) * 512 ∧ 0 ≤ (s + 511) / 512 ∧ (s + 511) / 512 ≤ 2147483648 := by omega

set_option maxHeartbeats 400000 in
theorem law4_long (a : Option Addr) (len cap : Nat) (w : World) (hm : len ≤ maxLen) (h : 65536 < len) :
    Calls Trym.prog 4 #[.slice a len cap] w fun e w' => e = .returned (.bool true) ∧ w = w' := by
  unfold maxLen at hm
  by_cases h1 : len ≤ 1048576
  · have t1 : decide (1048576 < (len : Int)) = false := by simp; omega
    go_enter Trym.func4, Trym.ntmps4
    go_wp2
    go_ret
    exact ⟨rfl, rfl⟩
  · have t1 : decide (1048576 < (len : Int)) = true := by simp; omega
    go_enter Trym.func4, Trym.ntmps4
    go_wp2
    go_ret
    exact ⟨rfl, rfl⟩

set_option maxHeartbeats 400000 in
theorem law4 (a : Option Addr) (len cap b o : Nat) (f : Nat → Int) (w : World) (h : len ≤ 65536) (ha : 0 < len → a = some ⟨b, o, none⟩) (hc : ∀ i, i < len → w.cell? ⟨b, o + i, none⟩ = some (.int .i64 (f i))) :
    Calls Trym.prog 4 #[.slice a len cap] w fun e w' => e = .returned (.bool true) ∧ w = w' := by
  have HC := hid hc
  have HA := hid ha
  clear hc ha
  have t1 : decide (1048576 < (len : Int)) = false := by simp; omega
  have t2 : decide (65536 < (len : Int)) = false := by simp; omega
  go_enter Trym.func4, Trym.ntmps4
  go_wp2_with (go_at_call 8; go_in)
  go_loop [3] (fun i => ∃ k : Nat, k ≤ len ∧ i = .int .i64 (k : Int) ∧ Hid (∀ j, j < k → 0 ≤ f j ∧ f j ≤ 1099511627776)) (fun i => len - (intOf i).toNat)
  case atStart => exact ⟨0, Nat.zero_le _, rfl, fun j hj => by omega⟩
  case round =>
    obtain ⟨k, hk, rfl, HB⟩ := hrel
    by_cases hlt : k < len
    · obtain rfl := HA.out (by omega)
      have hcell := HC.out k hlt
      by_cases h0 : f k < 0
      · have t3 : decide (f k < 0) = true := by simpa using h0
        go_wp2
        go_ret
        exact ⟨rfl, rfl⟩
      · have t3 : decide (f k < 0) = false := by simpa using h0
        by_cases h1 : 1099511627776 < f k
        · go_wp2
          go_ret
          exact ⟨rfl, rfl⟩
        · go_wp2
          go_round
          case rel => exact ⟨k + 1, by omega, by go_num, fun j hj => by
            by_cases e : j = k
            · subst e; omega
            · exact HB.out j (by omega)⟩
          case measure => simp [intOf]; omega
    · obtain rfl : k = len := by omega
      go_wp2_with fail
      go_loop [4, 5, 6, 7] (fun x y i s => ∃ j : Nat, ∃ B : Int, j ≤ k ∧ i = .int .i64 (j : Int) ∧ y = .int .i64 B ∧ x = .int .i64 (B * 512) ∧ 0 ≤ B ∧ B ≤ (j : Int) * 2147483649) (fun x y i s => k - (intOf i).toNat)
      case atStart => exact ⟨0, 0, Nat.zero_le _, rfl, rfl, rfl, by omega, by omega⟩
      case round =>
        obtain ⟨j, B, hj, rfl, rfl, rfl, hB0, hB1⟩ := hrel
        by_cases hlt2 : j < k
        · obtain rfl := HA.out (by omega)
          have hcell := HC.out j hlt2
          have hb := HB.out j hlt2
          have hbl := blocks_of (f j) hb.1 hb.2
          have hm : 0 ≤ (-(f j)) % 512 ∧ (-(f j)) % 512 < 512 := by omega
          have HE := hid hbl.1
          obtain ⟨_, hq0, hq1⟩ := hbl
          obtain ⟨hb0, hb1⟩ := hb
          obtain ⟨hm0, hm1⟩ := hm
          go_wp2_with (go_at_call 7; refine (fill7 (f j) _).mono ?_; rintro e w' ⟨rfl, rfl⟩)
          exact ⟨⟨j + 1, B + (1 + (f j + 511) / 512), by omega, by go_num, rfl, by go_num, by omega, by omega⟩, by simp [intOf]; omega⟩
        · go_wp2
          go_ret
          exact ⟨rfl, rfl⟩
end Go.Proofs.Qxb6612521aMods.Fill
