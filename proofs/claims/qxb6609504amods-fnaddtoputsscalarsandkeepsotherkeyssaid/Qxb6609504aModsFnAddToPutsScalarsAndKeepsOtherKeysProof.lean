/-
  THE PROOF OF 'Rows.FnAddToPutsScalarsAndKeepsOtherKeysSaid': the frame after the guide's own way for a law.
-/
import Derived.Test.Qxb6609504aModsRows
import Derived.Test.Qxb6609504aModsOpenB
import Derived.Test.Qxb6609504aModsWalksO
import Derived.WalkKit
import Derived.ProofKit
import Derived.OpenShut
import Derived.ShutString
import Derived.ChangeOld
import Derived.Below
namespace Go.Proofs.Qxb6609504aMods.fnAddToPutsScalarsAndKeepsOtherKeys
open Go.ChangeShapes Go.WideShapes Go.ChangeAt Go.RowKit
open Go.ChangeMaps (open_string shut_string)
set_option linter.unusedVariables false

theorem own : ownKnob Trym.prog.godebug = none := by kernel_rfl
theorem laidOut : laidOutB Trym.prog = true := by kernel_rfl

set_option maxRecDepth 100000 in
theorem lifted (os : Os) (started : os.Started) (H : Type) (enc : TypeId × Value → H) :
    ReturnsInHanded {} Trym.checked os 6 .any (Rows.fnAddToPutsScalarsAndKeepsOtherKeysSpec.pre6 enc Trym.prog Trym.f6 Rows.fnAddToPutsScalarsAndKeepsOtherKeysRow.domain false) (Rows.fnAddToPutsScalarsAndKeepsOtherKeysSpec.post enc Trym.prog Trym.f6 false true false false) := by
  refine returnsInHanded_of_change (C := Trym.checked) own started (by kernel_rfl) Trym.func6
    (ChangeSpec.witness6 (enc := enc) (C := Trym.checked) false ⟨#[], #[.int .i64 0, .string { data := #[] }, .bool false, .slice none 0 0, .slice none 0 0, .slice none 0 0, .slice none 0 0], []⟩ 8 (by kernel_rfl) (by kernel_rfl) (by kernel_rfl) (by kernel_rfl)) ?_
  intro W base args ds gs before hval0 hW hcnd _
  have hval : ∀ (j : Nat) t v, Trym.f6.params[j]? = some t → args[j]? = some v → Value.okWide Trym.prog W .any base t v := hval0
  have hW' := hW
  obtain ⟨p, q, hA0, hV, rfl, hfz, hnd⟩ := hW
  have hA : DataW.TrodAll enc Trym.prog W 0 (fun _ => true) true Trym.f6.params.toList args.toList ds p := hA0
  rw [Trym.params6] at hA hval
  obtain ⟨v0, vs0, d0, ds0, p0, q0, hargs, rfl, rfl, h0, r0⟩ := trodAll_cons hA
  obtain ⟨v1, vs1, d1, ds1, p1, q1, rfl, rfl, rfl, h1, r1⟩ := trodAll_cons r0
  obtain ⟨v2, vs2, d2, ds2, p2, q2, rfl, rfl, rfl, h2, r2⟩ := trodAll_cons r1
  obtain ⟨v3, vs3, d3, ds3, p3, q3, rfl, rfl, rfl, h3, r3⟩ := trodAll_cons r2
  obtain ⟨v4, vs4, d4, ds4, p4, q4, rfl, rfl, rfl, h4, r4⟩ := trodAll_cons r3
  obtain ⟨v5, vs5, d5, ds5, p5, q5, rfl, rfl, rfl, h5, r5⟩ := trodAll_cons r4
  obtain ⟨v6, vs6, d6, ds6, p6, q6, rfl, rfl, rfl, h6, r6⟩ := trodAll_cons r5
  obtain ⟨rfl, rfl, rfl⟩ := trodAll_nil r6
  obtain rfl : args = #[v0, v1, v2, v3, v4, v5, v6] := by cases args; simp_all
  obtain ⟨rfl, rfl⟩ := trodVars_none hV
  have lt0 : ∀ x ∈ p0, x.block < W.heap.size := by obtain ⟨m, hm⟩ := h0; exact DataW.trod_lt m _ _ _ hm
  have lt1 : ∀ x ∈ p1, x.block < W.heap.size := by obtain ⟨m, hm⟩ := h1; exact DataW.trod_lt m _ _ _ hm
  have lt2 : ∀ x ∈ p2, x.block < W.heap.size := by obtain ⟨m, hm⟩ := h2; exact DataW.trod_lt m _ _ _ hm
  have lt3 : ∀ x ∈ p3, x.block < W.heap.size := by obtain ⟨m, hm⟩ := h3; exact DataW.trod_lt m _ _ _ hm
  have lt4 : ∀ x ∈ p4, x.block < W.heap.size := by obtain ⟨m, hm⟩ := h4; exact DataW.trod_lt m _ _ _ hm
  have lt5 : ∀ x ∈ p5, x.block < W.heap.size := by obtain ⟨m, hm⟩ := h5; exact DataW.trod_lt m _ _ _ hm
  have lt6 : ∀ x ∈ p6, x.block < W.heap.size := by obtain ⟨m, hm⟩ := h6; exact DataW.trod_lt m _ _ _ hm
  obtain ⟨i0, rfl⟩ := okWide_int Trym.underlying3 (hval 0 3 v0 rfl rfl)
  obtain ⟨s1, rfl⟩ := okWide_string Trym.underlying9 (hval 1 9 v1 rfl rfl)
  obtain ⟨b2, rfl⟩ := okWide_bool Trym.underlying4 (hval 2 4 v2 rfl rfl)
  have hs1 : s1.size ≤ maxLen := by
    obtain ⟨k, hk⟩ := h1
    obtain ⟨s, e, _, hs⟩ := DataW.trod_string Trym.underlying9 hk
    simp [Value.cells] at e
    subst e
    exact hs
  obtain ⟨n1, sf, sx, hP1, hn1, hk1, hx1⟩ := Add.open_strs2 (hval 3 51 v3 rfl rfl) h3
  obtain ⟨n2, jf, jx, hP2, hn2, hk2, _⟩ := Add.open_ints' (hval 4 37 v4 rfl rfl) h4
  obtain ⟨n3, bf, bx, hP3, hn3, hk3⟩ := Add.open_bools (hval 5 52 v5 rfl rfl) h5
  obtain ⟨n4, pf, G, ml, ll, hP4, hn4, hk4, hG, hl⟩ := Add.open_lists (hval 6 36 v6 rfl rfl) h6
  clear hA0 hval0
  refine (Add.law6 i0 s1 b2 v3 v4 v5 v6 n1 n2 n3 n4 sf sx jf bf pf jx bx G ml ll W hs1 hP1 hk1 hx1 hn1 hP2 hk2 hn2 hP3 hk3 hn3 hP4 hG hk4 hl hn4).mono fun e W' ⟨he, bel⟩ => ?_
  subst he
  exact ⟨_, rfl, _, _, _, [], _, [], hW', trodAll_mk1 (shut_bool Trym.underlying4 _),
    (trodAll_cons_mk (Below.trod laidOut (by kernel_rfl) (of_decide_eq_true (by kernel_rfl)) h0 bel lt0)
    (trodAll_cons_mk (Below.trod laidOut (by kernel_rfl) (of_decide_eq_true (by kernel_rfl)) h1 bel lt1)
    (trodAll_cons_mk (Below.trod laidOut (by kernel_rfl) (of_decide_eq_true (by kernel_rfl)) h2 bel lt2)
    (trodAll_cons_mk (Below.trod laidOut (by kernel_rfl) (of_decide_eq_true (by kernel_rfl)) h3 bel lt3)
    (trodAll_cons_mk (Below.trod laidOut (by kernel_rfl) (of_decide_eq_true (by kernel_rfl)) h4 bel lt4)
    (trodAll_cons_mk (Below.trod laidOut (by kernel_rfl) (of_decide_eq_true (by kernel_rfl)) h5 bel lt5)
    (trodAll_cons_mk (Below.trod laidOut (by kernel_rfl) (of_decide_eq_true (by kernel_rfl)) h6 bel lt6) trodAll_mk0))))))), rfl, bel.frame _, fun h => by cases h⟩

theorem over : Rows.fnAddToPutsScalarsAndKeepsOtherKeysRow.holds Trym.pinned (OpenSpec.ofChange Rows.fnAddToPutsScalarsAndKeepsOtherKeysSpec) :=
  OpenClaim.holds_of_wide 6 Trym.f6 rfl rfl rfl rfl rfl rfl rfl ⟨rfl, rfl, rfl, rfl, rfl⟩ rfl rfl rfl rfl rfl (by kernel_rfl) Trym.func6 (by kernel_rfl)
    (of_decide_eq_true (by kernel_rfl)) (by unfold Func.isWrapper; first | (rw [if_pos (by decide +kernel)]; kernel_rfl) | (rw [if_neg (by decide +kernel)]; exact ⟨rfl, rfl⟩))
    (fun os started H enc _ => lifted os started H enc)

theorem proved : Rows.FnAddToPutsScalarsAndKeepsOtherKeysSaid := over
end Go.Proofs.Qxb6609504aMods.fnAddToPutsScalarsAndKeepsOtherKeys
