/-
  THE WALK of FnAddToPutsScalarsAndKeepsOtherKeys.
-/
import Derived.Test.Qxb6609504aModsWalksN
import Derived.WalkKit
import Derived.Below
import Derived.Deep.QuietTactic
import Derived.BigQuiet
import Derived.WalkSpells
import Derived.WalkLawsBesides
import Derived.Deep.OwnRows
import Derived.Deep.RegionWith
import Derived.RegionTactic
import Derived.Carry
import Derived.OwnWalk
namespace Go.Proofs.Qxb6609504aMods.Add
open Go.RowKit Go.Deep
set_option linter.unusedVariables false
set_option linter.unusedSimpArgs false

set_option maxRecDepth 100000 in
set_option maxHeartbeats 8000000 in
theorem law6 (line : Int) (frm : ByteArray) (ess : Bool) (sv iv bv pv : Value) (n1 n2 n3 n4 : Nat) (sf sx jf bf pf : Nat → ByteArray) (jx : Nat → Int) (bx : Nat → Bool) (G : Nat → Value) (ml : Nat → Nat) (ll : Nat → Nat → ByteArray) (w : World) (hf : frm.size ≤ maxLen)
    (h1 : IsPairs w sv n1 sf (fun i => .string (sx i))) (k1 : ∀ i, i < n1 → (sf i).size ≤ maxLen) (x1 : ∀ i, i < n1 → (sx i).size ≤ maxLen) (l1 : n1 ≤ maxLen)
    (h2 : IsPairs w iv n2 jf (fun i => .int .i64 (jx i))) (k2 : ∀ i, i < n2 → (jf i).size ≤ maxLen) (l2 : n2 ≤ maxLen)
    (h3 : IsPairs w bv n3 bf (fun i => .bool (bx i))) (k3 : ∀ i, i < n3 → (bf i).size ≤ maxLen) (l3 : n3 ≤ maxLen)
    (h4 : IsPairs w pv n4 pf G) (hG : ∀ i, i < n4 → IsStrs w (G i) (ml i) (ll i) ∧ ml i ≤ maxLen) (k4 : ∀ i, i < n4 → (pf i).size ≤ maxLen) (hl : ∀ i j, i < n4 → j < ml i → (ll i j).size ≤ maxLen) (l4 : n4 ≤ maxLen) :
    Calls Trym.prog 6 #[.int .i64 line, .string frm, .bool ess, sv, iv, bv, pv] w fun e w' => e = .returned (.bool true) ∧ Below w.heap.size w w' := by
  have H22 := hid (zz22 line frm ess sv iv bv pv n1 n2 n3 n4 sf sx jf bf pf (fun i => .int .i64 (jx i)) (fun i => .bool (bx i)) G ml ll w hf h1 k1 x1 l1 h2 k2 l2 h3 k3 l3 h4 hG k4 hl l4)
  have HP1 := hid h1
  have HP2 := hid h2
  have HP3 := hid h3
  have HP4 := hid h4
  have HG := hid hG
  obtain ⟨a1, c1, b1, o1, rfl, ha1, hc1⟩ := h1
  obtain ⟨a2, c2, b2, o2, rfl, ha2, hc2⟩ := h2
  obtain ⟨a3, c3, b3, o3, rfl, ha3, hc3⟩ := h3
  obtain ⟨a4, c4, b4, o4, rfl, ha4, hc4⟩ := h4
  unfold maxLen at hf l1 l2 l3 l4
  have HA1 := hid ha1
  have HC1 := hid hc1
  have HA2 := hid ha2
  have HC2 := hid hc2
  have HA3 := hid ha3
  have HC3 := hid hc3
  have HA4 := hid ha4
  have HC4 := hid hc4
  clear ha1 hc1 ha2 hc2 ha3 hc3 ha4 hc4 hG k1 x1 k2 k3 k4 hl
  go_enter Trym.func6, Trym.ntmps6
  go_wp2_with fail
  refine H22.out.mono ?_
  clear H22
  rintro e w' ⟨hb, rfl⟩
  rcases hb with rfl | ⟨rfl, hml⟩
  · go_wp2
    go_ret
    exact ⟨rfl, Below.refl _ _⟩
  have HL := hid hml
  clear hml
  by_cases t1 : 4096 < (n1 : Int)
  · have d1 := dec_true t1
    go_wp2
    go_ret
    exact ⟨rfl, Below.refl _ _⟩
  have d1 := dec_false t1
  by_cases t2 : 4096 < (n2 : Int)
  · have d2 := dec_true t2
    go_wp2
    go_ret
    exact ⟨rfl, Below.refl _ _⟩
  have d2 := dec_false t2
  by_cases t3 : 4096 < (n3 : Int)
  · have d3 := dec_true t3
    go_wp2
    go_ret
    exact ⟨rfl, Below.refl _ _⟩
  have d3 := dec_false t3
  by_cases t4 : 4096 < (n4 : Int)
  · have d4 := dec_true t4
    go_wp2
    go_ret
    exact ⟨rfl, Below.refl _ _⟩
  have d4 := dec_false t4
  by_cases t5 : 1048576 < (frm.size : Int)
  · have d5 := dec_true t5
    go_wp2
    go_ret
    exact ⟨rfl, Below.refl _ _⟩
  have d5 := dec_false t5
  go_wp2_with fail
  refine (add12 _ frm _).mono ?_
  rintro e w' ⟨⟨r, rfl⟩, rfl⟩
  go_wp2_with fail
  go_loop [15, 16] (fun x i => ∃ q : Nat, ∃ z : Int, q ≤ n1 ∧ i = .int .i64 (q : Int) ∧ x = .int .i64 z) (fun _ i => n1 - (intOf i).toNat)
  case atStart => exact ⟨0, _, Nat.zero_le _, rfl, rfl⟩
  case round =>
    obtain ⟨q, z, hq, rfl, rfl⟩ := hrel
    by_cases hlt : q < n1
    · obtain rfl := HA1.out (by omega)
      have h0 := (HC1.out q hlt).1
      have h1 := (HC1.out q hlt).2
      go_wp2_with fail
      refine (add12 _ (sf q) _).mono ?_
      rintro e w' ⟨⟨r1, rfl⟩, rfl⟩
      go_wp2_with fail
      refine (add12 _ (sx q) _).mono ?_
      rintro e w' ⟨⟨r1, rfl⟩, rfl⟩
      go_wp2
      go_round
      case rel => exact ⟨q + 1, _, by omega, by go_num, rfl⟩
      case measure => simp [intOf]; omega
    · obtain rfl : n1 = q := by omega
      go_wp2_with fail
      go_loop [15, 17] (fun x i => ∃ q : Nat, ∃ z : Int, q ≤ n2 ∧ i = .int .i64 (q : Int) ∧ x = .int .i64 z) (fun _ i => n2 - (intOf i).toNat)
      case atStart => exact ⟨0, _, Nat.zero_le _, rfl, rfl⟩
      case round =>
        obtain ⟨q, z, hq, rfl, rfl⟩ := hrel
        by_cases hlt : q < n2
        · obtain rfl := HA2.out (by omega)
          have h0 := (HC2.out q hlt).1
          have h1 := (HC2.out q hlt).2
          go_wp2_with fail
          refine (add12 _ (jf q) _).mono ?_
          rintro e w' ⟨⟨r1, rfl⟩, rfl⟩
          go_wp2
          go_round
          case rel => exact ⟨q + 1, _, by omega, by go_num, rfl⟩
          case measure => simp [intOf]; omega
        · obtain rfl : n2 = q := by omega
          go_wp2_with fail
          go_loop [15, 18] (fun x i => ∃ q : Nat, ∃ z : Int, q ≤ n3 ∧ i = .int .i64 (q : Int) ∧ x = .int .i64 z) (fun _ i => n3 - (intOf i).toNat)
          case atStart => exact ⟨0, _, Nat.zero_le _, rfl, rfl⟩
          case round =>
            obtain ⟨q, z, hq, rfl, rfl⟩ := hrel
            by_cases hlt : q < n3
            · obtain rfl := HA3.out (by omega)
              have h0 := (HC3.out q hlt).1
              have h1 := (HC3.out q hlt).2
              go_wp2_with fail
              refine (add12 _ (bf q) _).mono ?_
              rintro e w' ⟨⟨r1, rfl⟩, rfl⟩
              go_wp2
              go_round
              case rel => exact ⟨q + 1, _, by omega, by go_num, rfl⟩
              case measure => simp [intOf]; omega
            · obtain rfl : n3 = q := by omega
              go_wp2_with fail
              go_loop [15, 19] (fun x i => ∃ q : Nat, ∃ z : Int, q ≤ n4 ∧ i = .int .i64 (q : Int) ∧ x = .int .i64 z) (fun _ i => n4 - (intOf i).toNat)
              case atStart => exact ⟨0, _, Nat.zero_le _, rfl, rfl⟩
              case round =>
                obtain ⟨q, z, hq, rfl, rfl⟩ := hrel
                by_cases hlt : q < n4
                · obtain rfl := HA4.out (by omega)
                  have h0 := (HC4.out q hlt).1
                  have h1 := (HC4.out q hlt).2
                  have hstr := HG.out q hlt
                  have hgk : ∃ x y z, G q = .slice x y z := by obtain ⟨⟨a, c, _, _, e, _⟩, _⟩ := hstr; exact ⟨_, _, _, e⟩
                  obtain ⟨gx, gy, gz, hgk⟩ := hgk
                  rw [hgk] at h1 hstr
                  have HST := hid hstr.1
                  have hmlk := HL.out q hlt
                  clear hgk hstr
                  go_wp2_with fail
                  refine (add12 _ (pf q) _).mono ?_
                  rintro e w' ⟨⟨r1, rfl⟩, rfl⟩
                  go_wp2_with fail
                  refine (listBytes8 r1 _ (ml q) (ll q) _ HST.out hmlk).mono ?_
                  rintro e w' ⟨⟨r2, rfl⟩, rfl⟩
                  go_wp2
                  go_round
                  case rel => exact ⟨q + 1, _, by omega, by go_num, rfl⟩
                  case measure => simp [intOf]; omega
                · obtain rfl : n4 = q := by omega
                  by_cases t6 : 1048576 < z
                  · go_wp2
                    go_ret
                    exact ⟨rfl, Below.refl _ _⟩
                  clear d1 d2 d3 d4 d5
                  as_aux_lemma =>
                    have m1 := fun W => run_make_row' (P := Trym.prog) 22 9 (.string nilS) 16 Trym.underlying22 info9 rfl .i64 .i64 n1 (by omega) (by omega) W
                    go_wp2_with fail
                    clear m1
                    go_loopw [22] (fun i wr => ∃ q : Nat, q ≤ n1 ∧ i = .int .i64 (q : Int) ∧ Below w.heap.size w wr ∧ Hid (wr.rowIs w.heap.size 9 n1 (fun j => if j < q then .string (sf j) else .string nilS)) ∧ Hid (wr.rowIs (w.heap.size + 1) 9 n1 (fun j => if j < q then .string (sx j) else .string nilS))) (fun i _ => n1 - (intOf i).toNat)
                    case atStart => exact ⟨0, Nat.zero_le _, rfl, ((Below.refl _ _).alloc (Nat.le_refl _) _).alloc (by simp) _, hid (row_start ((World.rowIs_made _ _ _ _).alloc _)), hid (row_start (row_made_at _ _ _ _ _ (by simp)))⟩
                    case round =>
                      obtain ⟨q, hq, rfl, B1, R1, R2⟩ := hrel
                      by_cases hlt : q < n1
                      · obtain rfl := HA1.out (by omega)
                        have h0 := kept_below B1 _ _ _ ((HC1.out q hlt).1)
                        have h1 := kept_below B1 _ _ _ ((HC1.out q hlt).2)
                        have e1 := R1.out.cell hlt
                        have e2 := R2.out.cell hlt
                        have f1 := R1.out.frozen q
                        have f2 := R2.out.frozen q
                        rw [if_neg (Nat.lt_irrefl q)] at e1 e2
                        go_wp2
                        go_roundw
                        case rel => exact ⟨q + 1, by omega, by go_num, (B1.setCell (Nat.le_refl _) _).setCell (by dsimp only; omega) _, hid ((row_next R1.out rfl).setOther (by dsimp only; omega) _), hid (row_next (R2.out.setOther (by dsimp only; omega) _) rfl)⟩
                        case measure => simp [intOf]; omega
                      · obtain rfl : n1 = q := by omega
                        obtain ⟨w1, rfl⟩ : ∃ u : World, u = wr := ⟨_, rfl⟩
                        have K1 := hid (row_full R1.out)
                        have K2 := hid (row_full R2.out)
                        have z1 : w.heap.size + 1 < w1.heap.size := K2.out.lt
                        clear R1 R2
                        have m1 := fun W => run_make_row' (P := Trym.prog) 22 9 (.string nilS) 16 Trym.underlying22 info9 rfl .i64 .i64 n2 (by omega) (by omega) W
                        have m2 := fun W => run_make_row' (P := Trym.prog) 44 2 (.int .i64 0) 8 Trym.underlying44 info2 rfl .i64 .i64 n2 (by omega) (by omega) W
                        go_wp2_with fail
                        clear m1 m2
                        go_loopw [25] (fun i wr => ∃ q : Nat, q ≤ n2 ∧ i = .int .i64 (q : Int) ∧ Below w1.heap.size w1 wr ∧ Hid (wr.rowIs w1.heap.size 9 n2 (fun j => if j < q then .string (jf j) else .string nilS)) ∧ Hid (wr.rowIs (w1.heap.size + 1) 2 n2 (fun j => if j < q then .int .i64 (jx j) else .int .i64 0))) (fun i _ => n2 - (intOf i).toNat)
                        case atStart => exact ⟨0, Nat.zero_le _, rfl, ((Below.refl _ _).alloc (Nat.le_refl _) _).alloc (by simp) _, hid (row_start ((World.rowIs_made _ _ _ _).alloc _)), hid (row_start (row_made_at _ _ _ _ _ (by simp)))⟩
                        case round =>
                          obtain ⟨q, hq, rfl, B2, R1, R2⟩ := hrel
                          by_cases hlt : q < n2
                          · obtain rfl := HA2.out (by omega)
                            have h0 := kept_below B2 _ _ _ (kept_below B1 _ _ _ ((HC2.out q hlt).1))
                            have h1 := kept_below B2 _ _ _ (kept_below B1 _ _ _ ((HC2.out q hlt).2))
                            have e1 := R1.out.cell hlt
                            have e2 := R2.out.cell hlt
                            have f1 := R1.out.frozen q
                            have f2 := R2.out.frozen q
                            rw [if_neg (Nat.lt_irrefl q)] at e1 e2
                            go_wp2
                            go_roundw
                            case rel => exact ⟨q + 1, by omega, by go_num, (B2.setCell (Nat.le_refl _) _).setCell (by dsimp only; omega) _, hid ((row_next R1.out rfl).setOther (by dsimp only; omega) _), hid (row_next (R2.out.setOther (by dsimp only; omega) _) rfl)⟩
                            case measure => simp [intOf]; omega
                          · obtain rfl : n2 = q := by omega
                            obtain ⟨w2, rfl⟩ : ∃ u : World, u = wr := ⟨_, rfl⟩
                            have K3 := hid (row_full R1.out)
                            have K4 := hid (row_full R2.out)
                            have z2 : w1.heap.size + 1 < w2.heap.size := K4.out.lt
                            clear R1 R2
                            as_aux_lemma =>
                              have m1 := fun W => run_make_row' (P := Trym.prog) 22 9 (.string nilS) 16 Trym.underlying22 info9 rfl .i64 .i64 n3 (by omega) (by omega) W
                              have m2 := fun W => run_make_row' (P := Trym.prog) 58 4 (.bool false) 1 Trym.underlying58 info4 rfl .i64 .i64 n3 (by omega) (by omega) W
                              go_wp2_with fail
                              clear m1 m2
                              go_loopw [28] (fun i wr => ∃ q : Nat, q ≤ n3 ∧ i = .int .i64 (q : Int) ∧ Below w2.heap.size w2 wr ∧ Hid (wr.rowIs w2.heap.size 9 n3 (fun j => if j < q then .string (bf j) else .string nilS)) ∧ Hid (wr.rowIs (w2.heap.size + 1) 4 n3 (fun j => if j < q then .bool (bx j) else .bool false))) (fun i _ => n3 - (intOf i).toNat)
                              case atStart => exact ⟨0, Nat.zero_le _, rfl, ((Below.refl _ _).alloc (Nat.le_refl _) _).alloc (by simp) _, hid (row_start ((World.rowIs_made _ _ _ _).alloc _)), hid (row_start (row_made_at _ _ _ _ _ (by simp)))⟩
                              case round =>
                                obtain ⟨q, hq, rfl, B3, R1, R2⟩ := hrel
                                by_cases hlt : q < n3
                                · obtain rfl := HA3.out (by omega)
                                  have h0 := kept_below B3 _ _ _ (kept_below B2 _ _ _ (kept_below B1 _ _ _ ((HC3.out q hlt).1)))
                                  have h1 := kept_below B3 _ _ _ (kept_below B2 _ _ _ (kept_below B1 _ _ _ ((HC3.out q hlt).2)))
                                  have e1 := R1.out.cell hlt
                                  have e2 := R2.out.cell hlt
                                  have f1 := R1.out.frozen q
                                  have f2 := R2.out.frozen q
                                  rw [if_neg (Nat.lt_irrefl q)] at e1 e2
                                  go_wp2
                                  go_roundw
                                  case rel => exact ⟨q + 1, by omega, by go_num, (B3.setCell (Nat.le_refl _) _).setCell (by dsimp only; omega) _, hid ((row_next R1.out rfl).setOther (by dsimp only; omega) _), hid (row_next (R2.out.setOther (by dsimp only; omega) _) rfl)⟩
                                  case measure => simp [intOf]; omega
                                · obtain rfl : n3 = q := by omega
                                  obtain ⟨w3, rfl⟩ : ∃ u : World, u = wr := ⟨_, rfl⟩
                                  have K5 := hid (row_full R1.out)
                                  have K6 := hid (row_full R2.out)
                                  have z3 : w2.heap.size + 1 < w3.heap.size := K6.out.lt
                                  clear R1 R2
                                  have m1 := fun W => run_make_row' (P := Trym.prog) 22 9 (.string nilS) 16 Trym.underlying22 info9 rfl .i64 .i64 n4 (by omega) (by omega) W
                                  have m2 := fun W => run_make_row' (P := Trym.prog) 43 22 (.slice none 0 0) 24 Trym.underlying43 info22 rfl .i64 .i64 n4 (by omega) (by omega) W
                                  go_wp2_with fail
                                  clear m1 m2
                                  go_loopw [31] (fun i wr => ∃ q : Nat, q ≤ n4 ∧ i = .int .i64 (q : Int) ∧ Below w3.heap.size w3 wr ∧ Hid (wr.rowIs w3.heap.size 9 n4 (fun j => if j < q then .string (pf j) else .string nilS)) ∧ Hid (wr.rowIs (w3.heap.size + 1) 22 n4 (fun j => if j < q then G j else .slice none 0 0))) (fun i _ => n4 - (intOf i).toNat)
                                  case atStart => exact ⟨0, Nat.zero_le _, rfl, ((Below.refl _ _).alloc (Nat.le_refl _) _).alloc (by simp) _, hid (row_start ((World.rowIs_made _ _ _ _).alloc _)), hid (row_start (row_made_at _ _ _ _ _ (by simp)))⟩
                                  case round =>
                                    obtain ⟨q, hq, rfl, B4, R1, R2⟩ := hrel
                                    by_cases hlt : q < n4
                                    · obtain rfl := HA4.out (by omega)
                                      have h0 := kept_below B4 _ _ _ (kept_below B3 _ _ _ (kept_below B2 _ _ _ (kept_below B1 _ _ _ ((HC4.out q hlt).1))))
                                      have h1 := kept_below B4 _ _ _ (kept_below B3 _ _ _ (kept_below B2 _ _ _ (kept_below B1 _ _ _ ((HC4.out q hlt).2))))
                                      have hgk : ∃ x1 y z, G q = .slice x1 y z := by obtain ⟨⟨a, c, _, _, e, _⟩, _⟩ := HG.out q hlt; exact ⟨_, _, _, e⟩
                                      obtain ⟨gx, gy, gz, hgk⟩ := hgk
                                      rw [hgk] at h1
                                      have HGK := hid hgk
                                      clear hgk
                                      have e1 := R1.out.cell hlt
                                      have e2 := R2.out.cell hlt
                                      have f1 := R1.out.frozen q
                                      have f2 := R2.out.frozen q
                                      rw [if_neg (Nat.lt_irrefl q)] at e1 e2
                                      go_wp2
                                      go_roundw
                                      case rel => exact ⟨q + 1, by omega, by go_num, (B4.setCell (Nat.le_refl _) _).setCell (by dsimp only; omega) _, hid ((row_next R1.out rfl).setOther (by dsimp only; omega) _), hid (row_next (R2.out.setOther (by dsimp only; omega) _) HGK.out.symm)⟩
                                      case measure => simp [intOf]; omega
                                    · obtain rfl : n4 = q := by omega
                                      obtain ⟨w4, rfl⟩ : ∃ u : World, u = wr := ⟨_, rfl⟩
                                      have K7 := hid (row_full R1.out)
                                      have K8 := hid (row_full R2.out)
                                      have z4 : w3.heap.size + 1 < w4.heap.size := K8.out.lt
                                      clear R1 R2
                                      as_aux_lemma =>
                                        have m3 := make22d n1 n2 n3 n4 (by omega) (by omega) (by omega) (by omega)
                                        obtain ⟨cf, hcf⟩ : ∃ u, u = cat3 n1 n2 sf jf bf := ⟨_, rfl⟩
                                        obtain ⟨ks, hks⟩ : ∃ u, u = askOf cf pf (n1 + n2 + n3) := ⟨_, rfl⟩
                                        have ks0 : ∀ j, j < n1 + n2 + n3 → ks j = cf j := fun j hj => by rw [hks]; unfold askOf; rw [if_pos hj]
                                        have ks1 : ∀ j, j < n1 → ks (0 + j) = sf j := fun j hj => by rw [Nat.zero_add, ks0 j (by omega), hcf]; exact cat3_1 hj
                                        have ks2 : ∀ j, j < n2 → ks (0 + n1 + j) = jf j := fun j hj => by rw [Nat.zero_add, ks0 (n1 + j) (by omega), hcf]; exact cat3_2 hj
                                        have ks3 : ∀ j, j < n3 → ks (0 + n1 + n2 + j) = bf j := fun j hj => by rw [Nat.zero_add, ks0 (n1 + n2 + j) (by omega), hcf]; exact cat3_3
                                        have ks4 : ∀ j, ks (n1 + n2 + n3 + j) = pf j := fun j => by rw [hks]; unfold askOf; rw [if_neg (by omega), show n1 + n2 + n3 + j - (n1 + n2 + n3) = j by omega]
                                        have bA : Below w4.heap.size w4 (w4.alloc (.cells (madeCells #[.string nilS] (n1 + n2 + n3 + n4)) 9)) := (Below.refl _ _).alloc (Nat.le_refl _) _
                                        have AU0 := ask_start w4 (n1 + n2 + n3 + n4) ks (by omega)
                                        have b34 : Below w3.heap.size w3 w4 := B4
                                        have b24 := B3.trans (b34.mono B3.size)
                                        have b14 := B2.trans (b24.mono B2.size)
                                        have r1 := row_below (row_below K1.out b14 (by omega)) bA (by omega)
                                        obtain ⟨w5, app1, AU1, gr1⟩ := ask_app AU0 r1 ks1 (by omega)
                                        have bB := bA.grown gr1 bA.size (fun j e => by have := Option.some.inj e; omega)
                                        have r2 := row_below (row_below K3.out b24 (by omega)) bB (by omega)
                                        obtain ⟨w6, app2, AU2, gr2⟩ := ask_app AU1 r2 ks2 (by omega)
                                        have bC := bB.grown gr2 bB.size (fun j e => by have := Option.some.inj e; omega)
                                        have r3 := row_below (row_below K5.out b34 (by omega)) bC (by omega)
                                        obtain ⟨w7, app3, AU3, gr3⟩ := ask_app AU2 r3 ks3 (by omega)
                                        have bD := bC.grown gr3 bC.size (fun j e => by have := Option.some.inj e; omega)
                                        have r4 := row_below K7.out bD (by omega)
                                        obtain ⟨w8, app4, AU4, gr4⟩ := ask_app AU3 r4 (fun j _ => by rw [Nat.zero_add]; exact ks4 j) (by omega)
                                        have b48 := bD.grown gr4 bD.size (fun j e => by have := Option.some.inj e; omega)
                                        rw [Nat.zero_add] at app1 app2 app3 app4 AU4
                                        have HAU := hid AU4
                                        have HK0 := hid ks0
                                        have HK4 := hid ks4
                                        have HCF := hid hcf
                                        clear bA bB bC bD AU0 AU1 AU2 AU3 AU4 gr1 gr2 gr3 gr4 r1 r2 r3 r4 ks0 ks1 ks2 ks3 ks4 hks hcf
                                        go_wp2_with (at_builtin; first | refine wpList_app rfl (.tmp 286) (.tmp 287) rfl rfl rfl rfl app1 ?_ | refine wpList_app rfl (.tmp 289) (.tmp 290) rfl rfl rfl rfl app2 ?_ | refine wpList_app rfl (.tmp 292) (.tmp 293) rfl rfl rfl rfl app3 ?_ | refine wpList_app rfl (.tmp 295) (.tmp 296) rfl rfl rfl rfl app4 ?_)
                                        have b38 := b34.trans (b48.mono b34.size)
                                        have b28 := B3.trans (b38.mono B3.size)
                                        have b18 := B2.trans (b28.mono B2.size)
                                        have b08 := B1.trans (b18.mono B1.size)
                                        have hcov := cov_of (m := n4) HK0.out HK4.out
                                        have hG8 : ∀ i, i < n4 → IsStrs w8 (G i) (ml i) (ll i) ∧ ml i ≤ 1048576 := fun i hi => ⟨(HG.out i hi).1.kept (kept_below b08), HL.out i hi⟩
                                        refine (zz23 line frm ess w.heap.size (w.heap.size + 1) w1.heap.size (w1.heap.size + 1) w2.heap.size (w2.heap.size + 1) w3.heap.size (w3.heap.size + 1) n1 n2 n3 n4 (n1 + n2 + n3 + n4) sf sx jf bf pf ks cf jx bx G (cat3 n1 n2 (fun i => .iface 9 (.string (sx i))) (fun i => .iface 2 (.int .i64 (jx i))) (fun i => .iface 4 (.bool (bx i)))) (cat3 n1 n2 (fun i => avStr (sx i)) (fun i => avInt (jx i)) (fun i => avBool (bx i))) ml ll _ w8
                                          (by omega) (by omega) (by omega) (by omega) (by omega) (row_below K1.out b18 (by omega)) (row_below K2.out b18 (by omega)) (row_below K3.out b28 (by omega)) (row_below K4.out b28 (by omega)) (row_below K5.out b38 (by omega)) (row_below K6.out b38 (by omega)) (row_below K7.out b48 (by omega)) (row_below K8.out b48 (by omega)) hG8 (ask_strs HAU.out)
                                          (fun j hj => by rw [HCF.out]; exact ⟨cat3_1 hj, cat3_1 hj⟩) (fun j hj => by rw [HCF.out]; exact ⟨cat3_2 hj, cat3_2 hj⟩) (fun j hj => by rw [HCF.out]; exact ⟨cat3_3, cat3_3⟩)
                                          (fun j hj => by
                                            by_cases q1 : j < n1
                                            · rw [cat3_1 q1, cat3_1 q1]; exact .inr (.inl ⟨_, rfl, rfl⟩)
                                            · by_cases q2 : j < n1 + n2
                                              · obtain ⟨i, rfl⟩ : ∃ i, j = n1 + i := ⟨j - n1, by omega⟩
                                                rw [cat3_2 (by omega), cat3_2 (by omega)]; exact .inl ⟨_, rfl, rfl⟩
                                              · obtain ⟨i, rfl⟩ : ∃ i, j = n1 + n2 + i := ⟨j - (n1 + n2), by omega⟩
                                                rw [cat3_3, cat3_3]; exact .inr (.inr ⟨_, rfl, rfl⟩))
                                          hcov).mono ?_
                                        rintro e w9 ⟨D1, D2, D3, D4, D5, lv, Y, rfl, ⟨q1, q2, q3, q4, q5⟩, hST, hSay, hb9⟩
                                        have bw9 : Below w.heap.size w w9 := b08.trans (hb9.mono b08.size)
                                        have HAS := hid ((ask_strs HAU.out).kept (kept_below hb9))
                                        have P1 := hid (HP1.out.kept (kept_below bw9))
                                        have P2 := hid (HP2.out.kept (kept_below bw9))
                                        have P3 := hid (HP3.out.kept (kept_below bw9))
                                        have P4 := hid (HP4.out.kept (kept_below bw9))
                                        have HG9 : Hid (∀ i, i < n4 → IsStrs w9 (G i) (ml i) (ll i)) := fun i hi => (HG.out i hi).1.kept (kept_below bw9)
                                        have Q1 := hid q1
                                        have Q2 := hid q2
                                        have Q3 := hid q3
                                        have Q4 := hid q4
                                        have Q5 := hid q5
                                        have HST := hid hST
                                        rw [HCF.out] at hSay
                                        have HSAY := hid hSay
                                        clear app1 app2 app3 app4 m3 b48 b38 b28 b18 b08 b34 b24 b14 hcov hG8 q1 q2 q3 q4 q5 hST hSay hb9 K1 K2 K3 K4 K5 K6 K7 K8 HAU HK0 HK4 HCF B1 B2 B3 B4 HC1 HC2 HC3 HC4

                                        as_aux_lemma =>
                                          have e1 : (((n1 + n2 + n3 + n4 : Nat) : Int) != ((n1 + n2 + n3 + n4 : Nat) : Int)) = false := by simp
                                          have e2 : ((n1 : Int) + (n2 : Int) + (n3 : Int) + (n4 : Int) != (n1 : Int) + (n2 : Int) + (n3 : Int) + (n4 : Int)) = false := by simp
                                          go_wp2_with fail
                                          go_loopw [39] (fun i wr => ∃ j : Nat, j ≤ n1 + n2 + n3 + n4 ∧ i = .int .i64 (j : Int) ∧ Hid (Same w9 wr)) (fun i _ => n1 + n2 + n3 + n4 - (intOf i).toNat)
                                          case atStart => exact ⟨0, Nat.zero_le _, rfl, hid (Same.refl _)⟩
                                          case round =>
                                            obtain ⟨j, hj, rfl, SM⟩ := hrel
                                            by_cases hjl : j < n1 + n2 + n3 + n4
                                            · obtain ⟨xa, xc, xb, xo, hxe, hxa, hxc⟩ := HAS.out
                                              obtain ⟨rfl, rfl⟩ : some (⟨w4.heap.size, 0, none⟩ : Addr) = xa ∧ n1 + n2 + n3 + n4 = xc := by cases hxe; exact ⟨rfl, rfl⟩
                                              have hxa' := hxa (by omega)
                                              obtain ⟨rfl, rfl⟩ : w4.heap.size = xb ∧ 0 = xo := by cases hxa'; exact ⟨rfl, rfl⟩
                                              have ca := SM.out.kept _ _ _ (hxc j hjl)
                                              rw [Nat.zero_add] at ca
                                              have k1 := SM.out.kept _ _ _ (Q1.out.cell hjl)
                                              have k2 := SM.out.kept _ _ _ (Q2.out.cell hjl)
                                              have k3 := SM.out.kept _ _ _ (Q3.out.cell hjl)
                                              have k4 := SM.out.kept _ _ _ (Q4.out.cell hjl)
                                              have k5 := SM.out.kept _ _ _ (Q5.out.cell hjl)
                                              have hst := (HST.out j hjl).kept SM.out.kept
                                              have hsay := says3 (HSAY.out j hjl)
                                              clear hxe hxa hxc hxa'
                                              rcases hsay with ⟨i, hi, hfi, hlast, hy⟩ | ⟨no3, i, hi, hfi, hlast, hy⟩ | ⟨no3, no2, i, hi, hfi, hlast, hy⟩ | ⟨no3, no2, no1, i, hi, hfi, hlast, hy⟩
                                              · as_aux_lemma =>
                                                  rw [hy] at k1 k4
                                                  have k1' : wr.cell? ⟨D1, j, none⟩ = some (.int .i64 4) := k1
                                                  have k4' : wr.cell? ⟨D4, j, none⟩ = some (.bool (bx i)) := k4
                                                  have HY := hid (And.intro hi (And.intro hfi hlast))
                                                  obtain ⟨sa, sc, sb, so, hse, hsaa, hscc⟩ := P3.out
                                                  obtain ⟨rfl, rfl⟩ : a3 = sa ∧ c3 = sc := by cases hse; exact ⟨rfl, rfl⟩
                                                  obtain rfl := hsaa (by omega)
                                                  have ci := SM.out.kept _ _ _ (hscc i hi).2
                                                  have e3 : (bx i != bx i) = false := by simp
                                                  clear k1 k2 k3 k4 k5 hst hy hfi hlast hse hsaa hscc
                                                  go_wp2_with fail
                                                  refine (last24 _ n3 bf _ (ks j) _ (by omega) (P3.out.kept SM.out.kept)).mono ?_
                                                  rintro e w' ⟨⟨r, rfl, hr⟩, rfl⟩
                                                  obtain rfl := last_eq hr HY.out.1 HY.out.2.1 HY.out.2.2
                                                  clear hr
                                                  go_wp2_with fail
                                                  go_quiet (fail)
                                                  go_wp2
                                                  go_roundw
                                                  case rel => exact ⟨j + 1, by omega, by go_num, hid (SM.out.drewN _)⟩
                                                  case measure => simp [intOf]; omega
                                              · as_aux_lemma =>
                                                  rw [hy] at k1 k3
                                                  have k1' : wr.cell? ⟨D1, j, none⟩ = some (.int .i64 1) := k1
                                                  have k3' : wr.cell? ⟨D3, j, none⟩ = some (.int .i64 (jx i)) := k3
                                                  have HY := hid (And.intro hi (And.intro hfi hlast))
                                                  have N3 := hid no3
                                                  obtain ⟨sa, sc, sb, so, hse, hsaa, hscc⟩ := P2.out
                                                  obtain ⟨rfl, rfl⟩ : a2 = sa ∧ c2 = sc := by cases hse; exact ⟨rfl, rfl⟩
                                                  obtain rfl := hsaa (by omega)
                                                  have ci := SM.out.kept _ _ _ (hscc i hi).2
                                                  have e3 : (jx i != jx i) = false := by simp
                                                  clear k1 k2 k3 k4 k5 hst hy no3 hfi hlast hse hsaa hscc
                                                  go_wp2_with fail
                                                  refine (last24 _ n3 bf _ (ks j) _ (by omega) (P3.out.kept SM.out.kept)).mono ?_
                                                  rintro e w' ⟨⟨r, rfl, hr⟩, rfl⟩
                                                  obtain rfl := last_no hr N3.out
                                                  clear hr
                                                  go_wp2_with fail
                                                  refine (last20 _ n2 jf _ (ks j) _ (by omega) (P2.out.kept SM.out.kept)).mono ?_
                                                  rintro e w' ⟨⟨r, rfl, hr⟩, rfl⟩
                                                  obtain rfl := last_eq hr HY.out.1 HY.out.2.1 HY.out.2.2
                                                  clear hr
                                                  go_wp2_with fail
                                                  go_quiet (fail)
                                                  go_wp2
                                                  go_roundw
                                                  case rel => exact ⟨j + 1, by omega, by go_num, hid (SM.out.drewN _)⟩
                                                  case measure => simp [intOf]; omega
                                              · as_aux_lemma =>
                                                  rw [hy] at k1 k2
                                                  have k1' : wr.cell? ⟨D1, j, none⟩ = some (.int .i64 3) := k1
                                                  have k2' : wr.cell? ⟨D2, j, none⟩ = some (.string (sx i)) := k2
                                                  have HY := hid (And.intro hi (And.intro hfi hlast))
                                                  have N3 := hid no3
                                                  have N2 := hid no2
                                                  obtain ⟨sa, sc, sb, so, hse, hsaa, hscc⟩ := P1.out
                                                  obtain ⟨rfl, rfl⟩ : a1 = sa ∧ c1 = sc := by cases hse; exact ⟨rfl, rfl⟩
                                                  obtain rfl := hsaa (by omega)
                                                  have ci := SM.out.kept _ _ _ (hscc i hi).2
                                                  have e3 : ((sx i).toList == (sx i).toList) = true := eq_true_str rfl
                                                  clear k1 k2 k3 k4 k5 hst hy no3 no2 hfi hlast hse hsaa hscc
                                                  go_wp2_with fail
                                                  refine (last24 _ n3 bf _ (ks j) _ (by omega) (P3.out.kept SM.out.kept)).mono ?_
                                                  rintro e w' ⟨⟨r, rfl, hr⟩, rfl⟩
                                                  obtain rfl := last_no hr N3.out
                                                  clear hr
                                                  go_wp2_with fail
                                                  refine (last20 _ n2 jf _ (ks j) _ (by omega) (P2.out.kept SM.out.kept)).mono ?_
                                                  rintro e w' ⟨⟨r, rfl, hr⟩, rfl⟩
                                                  obtain rfl := last_no hr N2.out
                                                  clear hr
                                                  go_wp2_with fail
                                                  refine (last25 _ n1 sf _ (ks j) _ (by omega) (P1.out.kept SM.out.kept)).mono ?_
                                                  rintro e w' ⟨⟨r, rfl, hr⟩, rfl⟩
                                                  obtain rfl := last_eq hr HY.out.1 HY.out.2.1 HY.out.2.2
                                                  clear hr
                                                  go_wp2_with fail
                                                  go_quiet (fail)
                                                  go_wp2
                                                  go_roundw
                                                  case rel => exact ⟨j + 1, by omega, by go_num, hid (SM.out.drewN _)⟩
                                                  case measure => simp [intOf]; omega
                                              · as_aux_lemma =>
                                                  rw [hy] at k1 hst
                                                  have k1' : wr.cell? ⟨D1, j, none⟩ = some (.int .i64 6) := k1
                                                  have hst' : IsStrs wr (lv j) (ml i) (ll i) := hst
                                                  have hlv : ∃ x1 y1 z1, lv j = .slice x1 y1 z1 := by obtain ⟨a, c, _, _, e, _⟩ := hst'; exact ⟨_, _, _, e⟩
                                                  obtain ⟨lx, ly, lz, hlv⟩ := hlv
                                                  rw [hlv] at k5 hst'
                                                  obtain ⟨ga, gc, gb, go, hge, _⟩ := HG9.out i hi
                                                  have hsa : IsStrs wr (.slice ga (ml i) gc) (ml i) (ll i) := by rw [← hge]; exact (HG9.out i hi).kept SM.out.kept
                                                  have HSA := hid hsa
                                                  have HSB := hid hst'
                                                  have hmli := HL.out i hi
                                                  have HY := hid (And.intro hi (And.intro hfi hlast))
                                                  have N3 := hid no3
                                                  have N2 := hid no2
                                                  have N1 := hid no1
                                                  obtain ⟨sa, sc, sb, so, hse, hsaa, hscc⟩ := P4.out
                                                  obtain ⟨rfl, rfl⟩ : a4 = sa ∧ c4 = sc := by cases hse; exact ⟨rfl, rfl⟩
                                                  obtain rfl := hsaa (by omega)
                                                  have ci := SM.out.kept _ _ _ (hscc i hi).2
                                                  rw [hge] at ci
                                                  clear k1 k2 k3 k4 hst hst' hsa hge hlv hy no3 no2 no1 hfi hlast hse hsaa hscc
                                                  go_wp2_with fail
                                                  refine (last24 _ n3 bf _ (ks j) _ (by omega) (P3.out.kept SM.out.kept)).mono ?_
                                                  rintro e w' ⟨⟨r, rfl, hr⟩, rfl⟩
                                                  obtain rfl := last_no hr N3.out
                                                  clear hr
                                                  go_wp2_with fail
                                                  refine (last20 _ n2 jf _ (ks j) _ (by omega) (P2.out.kept SM.out.kept)).mono ?_
                                                  rintro e w' ⟨⟨r, rfl, hr⟩, rfl⟩
                                                  obtain rfl := last_no hr N2.out
                                                  clear hr
                                                  go_wp2_with fail
                                                  refine (last25 _ n1 sf _ (ks j) _ (by omega) (P1.out.kept SM.out.kept)).mono ?_
                                                  rintro e w' ⟨⟨r, rfl, hr⟩, rfl⟩
                                                  obtain rfl := last_no hr N1.out
                                                  clear hr
                                                  go_wp2_with fail
                                                  refine (last19 _ n4 pf _ (ks j) _ (by omega) (P4.out.kept SM.out.kept)).mono ?_
                                                  rintro e w' ⟨⟨r, rfl, hr⟩, rfl⟩
                                                  obtain rfl := last_eq hr HY.out.1 HY.out.2.1 HY.out.2.2
                                                  clear hr
                                                  go_wp2_with fail
                                                  go_quiet ((go_at_call 10; exact Calls.quiet_of (same10 _ _ (ml i) (ll i) _ hmli (HSB.out.drewN _) (HSA.out.drewN _))))
                                                  go_wp2
                                                  go_roundw
                                                  case rel => exact ⟨j + 1, by omega, by go_num, hid (SM.out.drewN _)⟩
                                                  case measure => simp [intOf]; omega
                                            · obtain rfl : n1 + n2 + n3 + n4 = j := by omega
                                              have e5 : (((Tab.dist ks (n1 + n2 + n3 + n4) : Nat) : Int) == ((Tab.dist ks (n1 + n2 + n3 + n4) : Nat) : Int)) = true := by simp
                                              go_wp2_with fail
                                              refine (distinct21 _ (n1 + n2 + n3 + n4) ks _ (by omega) (HAS.out.kept SM.out.kept)).mono ?_
                                              rintro e w' ⟨rfl, q', rfl⟩
                                              go_wp2
                                              go_ret
                                              exact ⟨rfl, below_drewN (SM.out.below bw9) _⟩
end Go.Proofs.Qxb6609504aMods.Add
