/-
  THE WALK of zzBytes_FnAddToPutsListsOverTable: where it answers true, every list has at most 1<<20 strings.
-/
import Derived.Test.Qxb6609504aModsWalksI
import Derived.WalkKit
import Derived.Below
import Derived.Deep.QuietTactic
import Derived.BigQuiet
import Derived.WalkSpells
import Derived.WalkLawsBesides
import Derived.Deep.OwnRows
import Derived.Deep.RegionWith
import Derived.RegionTactic
import Derived.Carry
namespace Go.Proofs.Qxb6609504aMods.Add
open Go.RowKit Go.Deep
set_option linter.unusedVariables false
set_option linter.unusedSimpArgs false

set_option maxRecDepth 100000 in
set_option maxHeartbeats 2000000 in
theorem zz17 (line : Int) (frm : ByteArray) (ess : Bool) (sv qv : Value) (n m : Nat) (f pf : Nat → ByteArray) (G Z : Nat → Value) (ml : Nat → Nat) (ll : Nat → Nat → ByteArray) (w : World) (hf : frm.size ≤ maxLen)
    (hs : IsPairs w sv n f G) (hG : ∀ i, i < n → IsStrs w (G i) (ml i) (ll i) ∧ ml i ≤ maxLen) (hk : ∀ i, i < n → (f i).size ≤ maxLen) (hl : ∀ i j, i < n → j < ml i → (ll i j).size ≤ maxLen) (hp : IsPairs w qv m pf Z) (hpk : ∀ i, i < m → (pf i).size ≤ maxLen) (hnL : n ≤ maxLen) (hmL : m ≤ maxLen) :
    Calls Trym.prog 17 #[.int .i64 line, .string frm, .bool ess, sv, qv] w fun e w' => (e = .returned (.bool false) ∨ (e = .returned (.bool true) ∧ ∀ i, i < n → ml i ≤ 1048576)) ∧ w = w' := by
  obtain ⟨a, c, b, o, rfl, ha, hc⟩ := hs
  obtain ⟨a2, c2, b2, o2, rfl, ha2, hc2⟩ := hp
  unfold maxLen at *
  have HA := hid ha
  have HC := hid hc
  have HA2 := hid ha2
  have HC2 := hid hc2
  have HG := hid hG
  have HK := hid hk
  have HL := hid hl
  have HPK := hid hpk
  clear ha hc ha2 hc2 hG hk hl hpk
  by_cases t1 : 1048576 < (frm.size : Int)
  · go_enter Trym.func17, Trym.ntmps17
    go_wp2
    go_ret
    exact ⟨.inl rfl, rfl⟩
  · by_cases t2 : 1048576 < (n : Int)
    · go_enter Trym.func17, Trym.ntmps17
      go_wp2
      go_ret
      exact ⟨.inl rfl, rfl⟩
    · by_cases t3 : 1048576 < (frm.size : Int) + (n : Int)
      · go_enter Trym.func17, Trym.ntmps17
        go_wp2
        go_ret
        exact ⟨.inl rfl, rfl⟩
      · go_enter Trym.func17, Trym.ntmps17
        go_wp2_with fail
        go_loop [11, 12] (fun x i => ∃ k : Nat, ∃ z : Int, k ≤ n ∧ i = .int .i64 (k : Int) ∧ x = .int .i64 z ∧ 0 ≤ z ∧ z ≤ 1048576 ∧ Hid (∀ j, j < k → ml j ≤ 1048576)) (fun _ i => n - (intOf i).toNat)
        case atStart => exact ⟨0, _, Nat.zero_le _, rfl, rfl, by omega, by omega, fun j hj => by omega⟩
        case round =>
          obtain ⟨k, z, hk, rfl, rfl, hz0, hz1, HB⟩ := hrel
          by_cases hlt : k < n
          · obtain rfl := HA.out (by omega)
            have h0 := (HC.out k hlt).1
            have h1 := (HC.out k hlt).2
            have hsz := HK.out k hlt
            obtain ⟨⟨ga, gc, gb, go, hgk, hga, hgc⟩, hml⟩ := HG.out k hlt
            rw [hgk] at h1
            have HGA := hid hga
            have HGC := hid hgc
            clear hgk hga hgc
            by_cases u1 : 1048576 < ((f k).size : Int)
            · go_wp2
              go_ret
              exact ⟨.inl rfl, rfl⟩
            · by_cases u2 : 1048576 < z + ((f k).size : Int)
              · go_wp2
                go_ret
                exact ⟨.inl rfl, rfl⟩
              · by_cases u3 : 1048576 < (ml k : Int)
                · go_wp2
                  go_ret
                  exact ⟨.inl rfl, rfl⟩
                · by_cases u4 : 1048576 < z + ((f k).size : Int) + (ml k : Int)
                  · go_wp2
                    go_ret
                    exact ⟨.inl rfl, rfl⟩
                  · go_wp2_with fail
                    go_loop [11, 13] (fun x i => ∃ q : Nat, ∃ y : Int, q ≤ ml k ∧ i = .int .i64 (q : Int) ∧ x = .int .i64 y ∧ 0 ≤ y ∧ y ≤ 1048576) (fun _ i => ml k - (intOf i).toNat)
                    case atStart => exact ⟨0, _, Nat.zero_le _, rfl, rfl, by omega, by omega⟩
                    case round =>
                      obtain ⟨q, y, hq, rfl, rfl, hy0, hy1⟩ := hrel
                      by_cases hql : q < ml k
                      · obtain rfl := HGA.out (by omega)
                        have h2 := HGC.out q hql
                        have hsz2 := HL.out k q hlt hql
                        by_cases v1 : 1048576 < ((ll k q).size : Int)
                        · go_wp2
                          go_ret
                          exact ⟨.inl rfl, rfl⟩
                        · by_cases v2 : 1048576 < y + ((ll k q).size : Int)
                          · go_wp2
                            go_ret
                            exact ⟨.inl rfl, rfl⟩
                          · go_wp2
                            go_round
                            case rel => exact ⟨q + 1, _, by omega, by go_num, rfl, by omega, by omega⟩
                            case measure => simp [intOf]; omega
                      · go_wp2
                        exact ⟨⟨k + 1, y, by omega, by go_num, rfl, hy0, hy1, fun j hj => by
                          by_cases e : j = k
                          · subst e; omega
                          · exact HB.out j (by omega)⟩, by simp [intOf]; omega⟩
          · obtain rfl : k = n := by omega
            by_cases w1 : 1048576 < (m : Int)
            · go_wp2
              go_ret
              exact ⟨.inl rfl, rfl⟩
            · by_cases w2 : 1048576 < z + (m : Int)
              · go_wp2
                go_ret
                exact ⟨.inl rfl, rfl⟩
              · go_wp2_with fail
                go_loop [11, 14] (fun x i => ∃ q : Nat, ∃ y : Int, q ≤ m ∧ i = .int .i64 (q : Int) ∧ x = .int .i64 y ∧ 0 ≤ y ∧ y ≤ 1048576) (fun _ i => m - (intOf i).toNat)
                case atStart => exact ⟨0, _, Nat.zero_le _, rfl, rfl, by omega, by omega⟩
                case round =>
                  obtain ⟨q, y, hq, rfl, rfl, hy0, hy1⟩ := hrel
                  by_cases hql : q < m
                  · obtain rfl := HA2.out (by omega)
                    have h2 := (HC2.out q hql).1
                    have hsz2 := HPK.out q hql
                    by_cases v1 : 1048576 < ((pf q).size : Int)
                    · go_wp2
                      go_ret
                      exact ⟨.inl rfl, rfl⟩
                    · by_cases v2 : 1048576 < y + ((pf q).size : Int)
                      · go_wp2
                        go_ret
                        exact ⟨.inl rfl, rfl⟩
                      · go_wp2
                        go_round
                        case rel => exact ⟨q + 1, _, by omega, by go_num, rfl, by omega, by omega⟩
                        case measure => simp [intOf]; omega
                  · go_wp2
                    go_ret
                    exact ⟨.inr ⟨rfl, HB.out⟩, rfl⟩
end Go.Proofs.Qxb6609504aMods.Add
