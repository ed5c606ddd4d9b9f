/-
  THE WALK of zzBytes_FnAddToPutsScalarsAndKeepsOtherKeys: where it answers true, every list has at most 1<<20 strings.
-/
import Derived.Test.Qxb6609504aModsWalksJ
import Derived.WalkKit
import Derived.Below
import Derived.Deep.QuietTactic
import Derived.BigQuiet
import Derived.WalkSpells
import Derived.WalkLawsBesides
import Derived.Deep.OwnRows
import Derived.Deep.RegionWith
import Derived.RegionTactic
import Derived.Carry
namespace Go.Proofs.Qxb6609504aMods.Add
open Go.RowKit Go.Deep
set_option linter.unusedVariables false
set_option linter.unusedSimpArgs false

set_option maxRecDepth 100000 in
set_option maxHeartbeats 4000000 in
theorem zz22 (line : Int) (frm : ByteArray) (ess : Bool) (sv iv bv pv : Value) (n1 n2 n3 n4 : Nat) (sf sx jf bf pf : Nat → ByteArray) (Z2 Z3 G : Nat → Value) (ml : Nat → Nat) (ll : Nat → Nat → ByteArray) (w : World) (hf : frm.size ≤ maxLen)
    (h1 : IsPairs w sv n1 sf (fun i => .string (sx i))) (k1 : ∀ i, i < n1 → (sf i).size ≤ maxLen) (x1 : ∀ i, i < n1 → (sx i).size ≤ maxLen) (l1 : n1 ≤ maxLen)
    (h2 : IsPairs w iv n2 jf Z2) (k2 : ∀ i, i < n2 → (jf i).size ≤ maxLen) (l2 : n2 ≤ maxLen)
    (h3 : IsPairs w bv n3 bf Z3) (k3 : ∀ i, i < n3 → (bf i).size ≤ maxLen) (l3 : n3 ≤ maxLen)
    (h4 : IsPairs w pv n4 pf G) (hG : ∀ i, i < n4 → IsStrs w (G i) (ml i) (ll i) ∧ ml i ≤ maxLen) (k4 : ∀ i, i < n4 → (pf i).size ≤ maxLen) (hl : ∀ i j, i < n4 → j < ml i → (ll i j).size ≤ maxLen) (l4 : n4 ≤ maxLen) :
    Calls Trym.prog 22 #[.int .i64 line, .string frm, .bool ess, sv, iv, bv, pv] w fun e w' => (e = .returned (.bool false) ∨ (e = .returned (.bool true) ∧ ∀ i, i < n4 → ml i ≤ 1048576)) ∧ w = w' := by
  obtain ⟨a1, c1, b1, o1, rfl, ha1, hc1⟩ := h1
  obtain ⟨a2, c2, b2, o2, rfl, ha2, hc2⟩ := h2
  obtain ⟨a3, c3, b3, o3, rfl, ha3, hc3⟩ := h3
  obtain ⟨a4, c4, b4, o4, rfl, ha4, hc4⟩ := h4
  unfold maxLen at *
  have HA1 := hid ha1
  have HC1 := hid hc1
  have HA2 := hid ha2
  have HC2 := hid hc2
  have HA3 := hid ha3
  have HC3 := hid hc3
  have HA4 := hid ha4
  have HC4 := hid hc4
  have HG := hid hG
  have HK1 := hid k1
  have HX1 := hid x1
  have HK2 := hid k2
  have HK3 := hid k3
  have HK4 := hid k4
  have HL := hid hl
  clear ha1 hc1 ha2 hc2 ha3 hc3 ha4 hc4 hG k1 x1 k2 k3 k4 hl
  by_cases t1 : 1048576 < (frm.size : Int)
  · go_enter Trym.func22, Trym.ntmps22
    go_wp2
    go_ret
    exact ⟨.inl rfl, rfl⟩
  by_cases t2 : 1048576 < (n1 : Int)
  · go_enter Trym.func22, Trym.ntmps22
    go_wp2
    go_ret
    exact ⟨.inl rfl, rfl⟩
  by_cases t3 : 1048576 < (frm.size : Int) + (n1 : Int)
  · go_enter Trym.func22, Trym.ntmps22
    go_wp2
    go_ret
    exact ⟨.inl rfl, rfl⟩
  go_enter Trym.func22, Trym.ntmps22
  go_wp2_with fail
  go_loop [15, 16] (fun x i => ∃ q1 : Nat, ∃ y : Int, q1 ≤ n1 ∧ i = .int .i64 (q1 : Int) ∧ x = .int .i64 y ∧ 0 ≤ y ∧ y ≤ 1048576) (fun _ i => n1 - (intOf i).toNat)
  case atStart => exact ⟨0, _, Nat.zero_le _, rfl, rfl, by omega, by omega⟩
  case round =>
    obtain ⟨q1, z, hq1, rfl, rfl, z0, z1⟩ := hrel
    by_cases hlt1 : q1 < n1
    · skip
      obtain rfl := HA1.out (by omega)
      have h0 := (HC1.out q1 hlt1).1
      have h1 := (HC1.out q1 hlt1).2
      have s0 := HK1.out q1 hlt1
      have s1 := HX1.out q1 hlt1
      by_cases t4 : 1048576 < ((sf q1).size : Int)
      · go_wp2
        go_ret
        exact ⟨.inl rfl, rfl⟩
      by_cases t5 : 1048576 < z + ((sf q1).size : Int)
      · go_wp2
        go_ret
        exact ⟨.inl rfl, rfl⟩
      by_cases t6 : 1048576 < ((sx q1).size : Int)
      · go_wp2
        go_ret
        exact ⟨.inl rfl, rfl⟩
      by_cases t7 : 1048576 < z + ((sf q1).size : Int) + ((sx q1).size : Int)
      · go_wp2
        go_ret
        exact ⟨.inl rfl, rfl⟩
      go_wp2
      go_round
      case rel => exact ⟨q1 + 1, _, by omega, by go_num, rfl, by omega, by omega⟩
      case measure => simp [intOf]; omega
    · skip
      by_cases t8 : 1048576 < (n2 : Int)
      · go_wp2
        go_ret
        exact ⟨.inl rfl, rfl⟩
      by_cases t9 : 1048576 < z + (n2 : Int)
      · go_wp2
        go_ret
        exact ⟨.inl rfl, rfl⟩
      go_wp2_with fail
      go_loop [15, 17] (fun x i => ∃ q2 : Nat, ∃ y : Int, q2 ≤ n2 ∧ i = .int .i64 (q2 : Int) ∧ x = .int .i64 y ∧ 0 ≤ y ∧ y ≤ 1048576) (fun _ i => n2 - (intOf i).toNat)
      case atStart => exact ⟨0, _, Nat.zero_le _, rfl, rfl, by omega, by omega⟩
      case round =>
        obtain ⟨q2, y, hq2, rfl, rfl, y0, y1⟩ := hrel
        by_cases hlt2 : q2 < n2
        · skip
          obtain rfl := HA2.out (by omega)
          have h0 := (HC2.out q2 hlt2).1
          have s0 := HK2.out q2 hlt2
          by_cases t10 : 1048576 < ((jf q2).size : Int)
          · go_wp2
            go_ret
            exact ⟨.inl rfl, rfl⟩
          by_cases t11 : 1048576 < y + ((jf q2).size : Int)
          · go_wp2
            go_ret
            exact ⟨.inl rfl, rfl⟩
          go_wp2
          go_round
          case rel => exact ⟨q2 + 1, _, by omega, by go_num, rfl, by omega, by omega⟩
          case measure => simp [intOf]; omega
        · skip
          by_cases t12 : 1048576 < (n3 : Int)
          · go_wp2
            go_ret
            exact ⟨.inl rfl, rfl⟩
          by_cases t13 : 1048576 < y + (n3 : Int)
          · go_wp2
            go_ret
            exact ⟨.inl rfl, rfl⟩
          go_wp2_with fail
          go_loop [15, 18] (fun x i => ∃ q3 : Nat, ∃ y : Int, q3 ≤ n3 ∧ i = .int .i64 (q3 : Int) ∧ x = .int .i64 y ∧ 0 ≤ y ∧ y ≤ 1048576) (fun _ i => n3 - (intOf i).toNat)
          case atStart => exact ⟨0, _, Nat.zero_le _, rfl, rfl, by omega, by omega⟩
          case round =>
            obtain ⟨q3, x, hq3, rfl, rfl, x0, x1⟩ := hrel
            by_cases hlt3 : q3 < n3
            · skip
              obtain rfl := HA3.out (by omega)
              have h0 := (HC3.out q3 hlt3).1
              have s0 := HK3.out q3 hlt3
              by_cases t14 : 1048576 < ((bf q3).size : Int)
              · go_wp2
                go_ret
                exact ⟨.inl rfl, rfl⟩
              by_cases t15 : 1048576 < x + ((bf q3).size : Int)
              · go_wp2
                go_ret
                exact ⟨.inl rfl, rfl⟩
              go_wp2
              go_round
              case rel => exact ⟨q3 + 1, _, by omega, by go_num, rfl, by omega, by omega⟩
              case measure => simp [intOf]; omega
            · skip
              by_cases t16 : 1048576 < (n4 : Int)
              · go_wp2
                go_ret
                exact ⟨.inl rfl, rfl⟩
              by_cases t17 : 1048576 < x + (n4 : Int)
              · go_wp2
                go_ret
                exact ⟨.inl rfl, rfl⟩
              go_wp2_with fail
              go_loop [15, 19] (fun x i => ∃ q4 : Nat, ∃ y : Int, q4 ≤ n4 ∧ i = .int .i64 (q4 : Int) ∧ x = .int .i64 y ∧ 0 ≤ y ∧ y ≤ 1048576 ∧ Hid (∀ j, j < q4 → ml j ≤ 1048576)) (fun _ i => n4 - (intOf i).toNat)
              case atStart => exact ⟨0, _, Nat.zero_le _, rfl, rfl, by omega, by omega, fun j hj => by omega⟩
              case round =>
                obtain ⟨q4, v, hq4, rfl, rfl, v0, v1, HB⟩ := hrel
                by_cases hlt4 : q4 < n4
                · skip
                  obtain rfl := HA4.out (by omega)
                  have h0 := (HC4.out q4 hlt4).1
                  have h1 := (HC4.out q4 hlt4).2
                  have s0 := HK4.out q4 hlt4
                  obtain ⟨⟨ga, gc, gb, go, hgk, hga, hgc⟩, hml⟩ := HG.out q4 hlt4
                  rw [hgk] at h1
                  have HGA := hid hga
                  have HGC := hid hgc
                  clear hgk hga hgc
                  by_cases t18 : 1048576 < ((pf q4).size : Int)
                  · go_wp2
                    go_ret
                    exact ⟨.inl rfl, rfl⟩
                  by_cases t19 : 1048576 < v + ((pf q4).size : Int)
                  · go_wp2
                    go_ret
                    exact ⟨.inl rfl, rfl⟩
                  by_cases t20 : 1048576 < (ml q4 : Int)
                  · go_wp2
                    go_ret
                    exact ⟨.inl rfl, rfl⟩
                  by_cases t21 : 1048576 < v + ((pf q4).size : Int) + (ml q4 : Int)
                  · go_wp2
                    go_ret
                    exact ⟨.inl rfl, rfl⟩
                  go_wp2_with fail
                  go_loop [15, 20] (fun x i => ∃ q5 : Nat, ∃ y : Int, q5 ≤ ml q4 ∧ i = .int .i64 (q5 : Int) ∧ x = .int .i64 y ∧ 0 ≤ y ∧ y ≤ 1048576) (fun _ i => ml q4 - (intOf i).toNat)
                  case atStart => exact ⟨0, _, Nat.zero_le _, rfl, rfl, by omega, by omega⟩
                  case round =>
                    obtain ⟨q5, u, hq5, rfl, rfl, u0, u1⟩ := hrel
                    by_cases hlt5 : q5 < ml q4
                    · skip
                      obtain rfl := HGA.out (by omega)
                      have h2 := HGC.out q5 hlt5
                      have s2 := HL.out q4 q5 hlt4 hlt5
                      by_cases t22 : 1048576 < ((ll q4 q5).size : Int)
                      · go_wp2
                        go_ret
                        exact ⟨.inl rfl, rfl⟩
                      by_cases t23 : 1048576 < u + ((ll q4 q5).size : Int)
                      · go_wp2
                        go_ret
                        exact ⟨.inl rfl, rfl⟩
                      go_wp2
                      go_round
                      case rel => exact ⟨q5 + 1, _, by omega, by go_num, rfl, by omega, by omega⟩
                      case measure => simp [intOf]; omega
                    · skip
                      go_wp2
                      exact ⟨⟨q4 + 1, u, by omega, by go_num, rfl, u0, u1, fun j hj => by
                        by_cases e : j = q4
                        · subst e; omega
                        · exact HB.out j (by omega)⟩, by simp [intOf]; omega⟩
                · skip
                  obtain rfl : q4 = n4 := by omega
                  go_wp2
                  go_ret
                  exact ⟨.inr ⟨rfl, HB.out⟩, rfl⟩
end Go.Proofs.Qxb6609504aMods.Add
