/-
  THE WALK of ZZaddToLists.
-/
import Derived.Test.Qxb6609504aModsWalksH
import Derived.WalkKit
import Derived.Below
import Derived.Deep.QuietTactic
import Derived.BigQuiet
import Derived.WalkSpells
import Derived.WalkLawsBesides
import Derived.Deep.OwnRows
import Derived.Deep.RegionWith
import Derived.RegionTactic
import Derived.Carry
namespace Go.Proofs.Qxb6609504aMods.Add
open Go.RowKit Go.Deep
set_option linter.unusedVariables false
set_option linter.unusedSimpArgs false

set_option maxRecDepth 100000 in
set_option maxHeartbeats 2000000 in
theorem zz18 (line : Int) (frm : ByteArray) (ess : Bool) (gk gl gp gv n m N : Nat) (f pf ks : Nat → ByteArray) (G : Nat → Value) (ml : Nat → Nat) (ll : Nat → Nat → ByteArray) (pv : Nat → Int) (av : Value) (w : World) (hn : n ≤ 1048576) (hm : m ≤ 1048576) (hN : N ≤ 1048576)
    (r1 : w.rowIs gk 9 n (fun i => .string (f i))) (r2 : w.rowIs gl 22 n G) (r3 : w.rowIs gp 9 m (fun i => .string (pf i))) (r4 : w.rowIs gv 2 m (fun i => .int .i64 (pv i))) (hG : ∀ i, i < n → IsStrs w (G i) (ml i) (ll i) ∧ ml i ≤ 1048576)
    (ha : IsStrs w av N ks) (hcov : ∀ k, (∃ j, j < N ∧ ks j = k) ↔ (∃ i, i < n ∧ f i = k) ∨ ∃ i, i < m ∧ pf i = k) :
    Calls Trym.prog 18 #[.int .i64 line, .string frm, .bool ess, .slice (some ⟨gk, 0, none⟩) n n, .slice (some ⟨gl, 0, none⟩) n n, .slice (some ⟨gp, 0, none⟩) m m, .slice (some ⟨gv, 0, none⟩) m m, av] w fun e w' =>
      ∃ (B1 B2 B3 : Nat) (lv : Nat → Value) (Y : Nat → AV), e = .returned (.tuple #[.int .i64 (Tab.dist ks N : Nat), .slice (some ⟨B1, 0, none⟩) N N, .slice (some ⟨B2, 0, none⟩) N N, .slice (some ⟨B3, 0, none⟩) N N]) ∧
      (w'.rowIs B1 3 N (fun j => .int .i64 (Y j).kind) ∧ w'.rowIs B2 2 N (fun j => .int .i64 (Y j).n) ∧ w'.rowIs B3 22 N lv) ∧ (∀ j, j < N → IsStrs w' (lv j) (Y j).m (Y j).l) ∧
      (∀ j, j < N → Tab.Says f (fun i => avAny (ml i) (ll i)) n pf (fun i => avInt (pv i)) m (ks j) (Y j)) ∧ Below w.heap.size w w' := by
  have R1 := hid r1
  have R2 := hid r2
  have R3 := hid r3
  have R4 := hid r4
  have HG := hid hG
  have HK := hid ha
  have HV := hid hcov
  clear r1 r2 r3 r4 hG ha hcov
  have hmk := make65 n hn
  have hmm := @run_makeMap Trym.prog
  have hav : ∃ a c, av = .slice a N c := by obtain ⟨a, c, _, _, e, _⟩ := HK.out; exact ⟨a, c, e⟩
  obtain ⟨aa, ac, rfl⟩ := hav
  go_enter Trym.func18, Trym.ntmps18
  go_wp2_with fail
  go_loopw [21] (fun i wr => ∃ k : Nat, k ≤ n ∧ i = .int .i64 (k : Int) ∧ Below w.heap.size w wr ∧ Hid (wr.rowIs w.heap.size 67 (n * 2) (kvRow f (fun i => .iface 22 (G i)) k))) (fun i _ => n - (intOf i).toNat)
  case atStart => exact ⟨0, Nat.zero_le _, rfl, (Below.refl _ _).alloc (Nat.le_refl _) _, hid ((rowKV_made w n).congr (fun j hj => by unfold kvRow; rw [if_neg (by omega)]))⟩
  case round =>
    obtain ⟨k, hk, rfl, hB, HR⟩ := hrel
    by_cases hlt : k < n
    · have c1 := (row_below R1.out hB R1.out.lt).cell hlt
      have c2 := (row_below R2.out hB R2.out.lt).cell hlt
      have hgk : ∃ a l c, G k = .slice a l c := by obtain ⟨⟨a, c, _, _, e, _⟩, _⟩ := HG.out k hlt; exact ⟨_, _, _, e⟩
      obtain ⟨ga, gm, gc, hgk⟩ := hgk
      rw [hgk] at c2
      have HGK := hid hgk
      clear hgk
      have o0 := HR.out.cell (i := k * 2) (by omega)
      have o1 := HR.out.cell (i := k * 2 + 1) (by omega)
      unfold kvRow zKV at o0 o1
      rw [if_neg (by omega), if_pos (by omega)] at o0
      rw [if_neg (by omega), if_neg (by omega)] at o1
      have f0 := HR.out.frozen (k * 2)
      have f1 := HR.out.frozen (k * 2 + 1)
      go_wp2_with fail
      go_region
      go_wp2
      exact ⟨⟨k + 1, by omega, by go_num, ((hB.setCell (Nat.le_refl _) _).setCell (Nat.le_refl _) _).drew, hid (rowKV_next HR.out rfl (by rw [HGK.out])).drew⟩, by simp [intOf]; omega⟩
    · obtain rfl : k = n := by omega
      obtain ⟨w1, rfl⟩ : ∃ w1 : World, w1 = wr := ⟨_, rfl⟩
      have hs1 := hB.size
      go_wp2_with fail
      clear hmk hmm
      go_loopw [23] (fun i wr => ∃ q : Nat, q ≤ m ∧ i = .int .i64 (q : Int) ∧ Hid (IsMap wr w1.heap.size (Tab.putsN [] pf (fun i => .iface 2 (.int .i64 (pv i))) q)) ∧ Hid ((w1.alloc (.map #[] 0)).grownBy wr (some w1.heap.size))) (fun i _ => m - (intOf i).toNat)
      case atStart => exact ⟨0, Nat.zero_le _, rfl, hid (IsMap.made w1), hid (gb_refl _ _)⟩
      case round =>
        obtain ⟨q, hq, rfl, IM, IG⟩ := hrel
        have hB1 : Below w.heap.size w (w1.alloc (.map #[] 0)) := hB.alloc hs1 _
        by_cases hlt2 : q < m
        · have c3 := (row_grown (row_below R3.out hB1 R3.out.lt) IG.out (by have := R3.out.lt; omega)).cell hlt2
          have c4 := (row_grown (row_below R4.out hB1 R4.out.lt) IG.out (by have := R4.out.lt; omega)).cell hlt2
          obtain ⟨w2, hput, hM2, hG2⟩ := run_put (w := wr.drew) (show IsMap wr.drew _ _ from IM.out) (pf q) (.iface 2 (.int .i64 (pv q)))
          have HM2 := hid hM2
          have HG2 := hid hG2
          clear hM2 hG2
          go_wp2_with fail
          go_region
          all_goals go_wp2
          all_goals exact ⟨⟨q + 1, by omega, by go_num, hid HM2.out, hid (gb_trans (gb_below IG.out ((Below.refl _ _).drew)) HG2.out)⟩, by simp [intOf]; omega⟩
        · obtain rfl : q = m := by omega
          have hM0 := IsMap.made w1
          have keep := kept_grown hM0 IG.out
          have keepA : ∀ b i u, w.cell? ⟨b, i, none⟩ = some u → wr.cell? ⟨b, i, none⟩ = some u := fun b i u hu => keep b i u ((kept_below (hB1)) b i u hu)
          have hP := rowKV_pairs (row_grown (HR.out.alloc (.map #[] 0)) IG.out (by have := HR.out.lt; omega))
          have hD : ∀ j, j < k → DecIn wr (.iface 22 (G j)) (avAny (ml j) (ll j)) := fun j hj => .inr ⟨ml j, ll j, ⟨G j, rfl, (HG.out j hj).2, (HG.out j hj).1.kept keepA⟩, rfl⟩
          have hBr : Below w.heap.size w wr := ⟨IG.out.os.trans hB1.os, IG.out.tape.trans hB1.tape, IG.out.output.trans hB1.output, by have := IG.out.size; have := hB1.size; omega, fun i hi => by
            rw [IG.out.block i (by have := hB1.size; omega) (fun e => by have := Option.some.inj e; omega)]; exact hB1.block i hi⟩
          have HP := hid hP
          have HD := hid hD
          have HKA := hid keepA
          clear hM0 keep keepA hP hD
          go_wp2_with fail
          refine (add28 line frm ess w1.heap.size _ _ k f (fun i => .iface 22 (G i)) (fun j => avAny (ml j) (ll j)) wr hn IM.out HP.out HD.out).mono ?_
          rintro e w3 ⟨rfl, V, hM3, hR3, hG3⟩
          have keep3 := kept_grown IM.out hG3
          have hask := (HK.out.kept HKA.out).kept keep3
          have hB3 : Below w.heap.size w w3 := hBr.grown hG3 hBr.size (fun i e => by have := Option.some.inj e; omega)
          have HM3 := hid hM3
          have HR3 := hid hR3
          have HAS := hid hask
          clear hM3 hR3 hG3 keep3 hask IM IG HP HD HKA hBr hB1
          go_wp2_with fail
          refine (view29t w1.heap.size pf (fun i => .iface 2 (.int .i64 (pv i))) (fun i => avInt (pv i)) q f V (fun j => avAny (ml j) (ll j)) k (.slice aa N ac) N ks w3 hN HM3.out (fun i hi => .inl (.inl ⟨_, rfl, rfl⟩)) HR3.out HAS.out HV.out).mono ?_
          rintro e w4 ⟨lv, Y, rfl, ⟨g1, g2, g3, g4, g5⟩, hS, hY, hb4⟩
          have K1 := hid g1
          have K3 := hid g3
          have K5 := hid g5
          have HS := hid hS
          have HY := hid hY
          have hB4 := hB3.trans (hb4.mono hB3.size)
          clear g1 g2 g3 g4 g5 hS hY hb4
          go_wp2
          exact bodyPost_ret (v := .tuple #[.int .i64 (Tab.dist ks N : Nat), .slice (some ⟨w3.heap.size, 0, none⟩) N N, .slice (some ⟨w3.heap.size + 1 + 1, 0, none⟩) N N, .slice (some ⟨w3.heap.size + 1 + 1 + 1 + 1, 0, none⟩) N N]) (by simp [results, Trym.results18, go_sem]) rfl
            ⟨_, _, _, lv, Y, rfl, ⟨K1.out, K3.out, K5.out⟩, HS.out, HY.out, hB4⟩
end Go.Proofs.Qxb6609504aMods.Add
