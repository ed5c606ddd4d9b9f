/-
  THREE LISTS OF KEYS, ONE BEHIND THE OTHER; 'ask' grown by whole rows.
-/
import Derived.Test.Qxb6609504aModsWalksL
import Derived.Test.Qxb6609504aModsWalksM
import Derived.WalkKit
import Derived.Below
import Derived.Deep.OwnRows
import Derived.OwnWalk
namespace Go.Proofs.Qxb6609504aMods.Add
open Go.RowKit Go.Deep
set_option linter.unusedVariables false
set_option linter.unusedSimpArgs false

/-- Three families, one behind the other. -/
def cat3 {α : Type} (a b : Nat) (f g h : Nat → α) (j : Nat) : α := if j < a then f j else if j < a + b then g (j - a) else h (j - (a + b))
theorem cat3_1 {α : Type} {a b : Nat} {f g h : Nat → α} {j : Nat} (hj : j < a) : cat3 a b f g h j = f j := by unfold cat3; rw [if_pos hj]
theorem cat3_2 {α : Type} {a b : Nat} {f g h : Nat → α} {j : Nat} (hj : j < b) : cat3 a b f g h (a + j) = g j := by
  unfold cat3; rw [if_neg (by omega), if_pos (by omega), show a + j - a = j by omega]
theorem cat3_3 {α : Type} {a b : Nat} {f g h : Nat → α} {j : Nat} : cat3 a b f g h (a + b + j) = h j := by
  unfold cat3; rw [if_neg (by omega), if_neg (by omega), show a + b + j - (a + b) = j by omega]

/-- The last place of 'k' among the three is its last place in the last of them that has it. -/
theorem says3 {a b c m : Nat} {sf jf bf pf : Nat → ByteArray} {X1 X2 X3 PX : Nat → AV} {k : ByteArray} {y : AV} (h : Tab.Says (cat3 a b sf jf bf) (cat3 a b X1 X2 X3) (a + b + c) pf PX m k y) :
    (∃ i, i < c ∧ bf i = k ∧ (∀ j, i < j → j < c → bf j ≠ k) ∧ y = X3 i) ∨
    ((∀ i, i < c → bf i ≠ k) ∧ ∃ i, i < b ∧ jf i = k ∧ (∀ j, i < j → j < b → jf j ≠ k) ∧ y = X2 i) ∨
    ((∀ i, i < c → bf i ≠ k) ∧ (∀ i, i < b → jf i ≠ k) ∧ ∃ i, i < a ∧ sf i = k ∧ (∀ j, i < j → j < a → sf j ≠ k) ∧ y = X1 i) ∨
    ((∀ i, i < c → bf i ≠ k) ∧ (∀ i, i < b → jf i ≠ k) ∧ (∀ i, i < a → sf i ≠ k) ∧ ∃ i, i < m ∧ pf i = k ∧ (∀ j, i < j → j < m → pf j ≠ k) ∧ y = PX i) := by
  rcases h with ⟨i, hi, he, hl, hy⟩ | ⟨hno, i, hi, he, hl, hy⟩
  · by_cases h1 : i < a
    · rw [cat3_1 h1] at he hy
      refine .inr (.inr (.inl ⟨fun j hj e => ?_, fun j hj e => ?_, i, h1, he, fun j hj hj' e => ?_, hy⟩))
      · exact hl (a + b + j) (by omega) (by omega) (by rw [cat3_3]; exact e)
      · exact hl (a + j) (by omega) (by omega) (by rw [cat3_2 hj]; exact e)
      · exact hl j hj (by omega) (by rw [cat3_1 hj']; exact e)
    · by_cases h2 : i < a + b
      · obtain ⟨i, rfl⟩ : ∃ i', i = a + i' := ⟨i - a, by omega⟩
        have hib : i < b := by omega
        rw [cat3_2 hib] at he hy
        refine .inr (.inl ⟨fun j hj e => ?_, i, hib, he, fun j hj hj' e => ?_, hy⟩)
        · exact hl (a + b + j) (by omega) (by omega) (by rw [cat3_3]; exact e)
        · exact hl (a + j) (by omega) (by omega) (by rw [cat3_2 hj']; exact e)
      · obtain ⟨i, rfl⟩ : ∃ i', i = a + b + i' := ⟨i - (a + b), by omega⟩
        rw [cat3_3] at he hy
        exact .inl ⟨i, by omega, he, fun j hj hj' e => hl (a + b + j) (by omega) (by omega) (by rw [cat3_3]; exact e), hy⟩
  · refine .inr (.inr (.inr ⟨fun j hj e => ?_, fun j hj e => ?_, fun j hj e => ?_, i, hi, he, hl, hy⟩))
    · exact hno (a + b + j) (by omega) (by rw [cat3_3]; exact e)
    · exact hno (a + j) (by omega) (by rw [cat3_2 hj]; exact e)
    · exact hno j (by omega) (by rw [cat3_1 hj]; exact e)

/-- 'make([]string, 0, a+b+c+d)'. -/
theorem make22d (a b c d : Nat) (ha : a ≤ 4096) (hb : b ≤ 4096) (hc : c ≤ 4096) (hd : d ≤ 4096) (W : World) : (Instr.makeSlice 22 (.int .i64 0) (.int .i64 ((a : Int) + (b : Int) + (c : Int) + (d : Int)))).run Trym.prog W = .ok (.slice (some ⟨W.heap.size, 0, none⟩) 0 (a + b + c + d)) (W.alloc (.cells (madeCells #[.string nilS] (a + b + c + d)) 9)) := by
  obtain ⟨i, hi, hz⟩ := Option.map_eq_some_iff.1 info9
  simp only [Prod.mk.injEq] at hz
  obtain ⟨h1, h2, h3⟩ := hz
  have := run_make (P := Trym.prog) W 22 9 i _ Trym.underlying22 hi h1 .i64 .i64 0 ((a : Int) + (b : Int) + (c : Int) + (d : Int)) (by omega) (by omega) (by rw [h3]; omega) (by omega)
  have e : ((a : Int) + (b : Int) + (c : Int) + (d : Int)).toNat = a + b + c + d := by omega
  simpa [h2, Value.cells, e] using this

/-- 'append(ask, row...)', inside the room. -/
theorem ask_app {w : World} {g cap k b m : Nat} {ks f : Nat → ByteArray} (h : AskUpto w g cap k ks) (hr : w.rowIs b 9 m (fun i => .string (f i))) (hs : ∀ i, i < m → ks (k + i) = f i) (hk : k + m ≤ cap) :
    ∃ w', (Builtin.append_ #[22, 22] 22 #[.slice (some ⟨g, 0, none⟩) k cap, .slice (some ⟨b, 0, none⟩) m m]).run Trym.prog w = .ok (.slice (some ⟨g, 0, none⟩) (k + m) cap) w' ∧
      AskUpto w' g cap (k + m) ks ∧ w.grownBy w' (some g) := by
  obtain ⟨i, hi, hz⟩ := Option.map_eq_some_iff.1 info9
  simp only [Prod.mk.injEq] at hz
  obtain ⟨w', hrun, ho, hg⟩ := run_append_fits (P := Trym.prog) w g 22 22 9 i 1 Trym.underlying22 hi hz.2.1 g k cap _ h ⟨b, 0, none⟩ m m ((List.range m).map (fun j => .string (f j))) (by simp)
    (by
      intro j u hu
      by_cases hj : j < m
      · simp [hj] at hu
        subst hu
        have := hr.cell hj
        rw [Addr.add_lit, Nat.zero_add]
        exact this
      · simp [hj] at hu)
    (by
      intro u hu
      obtain ⟨j, _, rfl⟩ := List.mem_map.1 hu
      rfl) hk
  refine ⟨w', hrun, ?_, hg⟩
  show w'.ownsRow _ _ _ _ _ _
  have e : (List.range (k + m)).map (fun j => Value.string (ks j)) = (List.range k).map (fun j => Value.string (ks j)) ++ (List.range m).map (fun j => Value.string (f j)) := by
    rw [List.range_add, List.map_append, List.map_map]
    congr 1
    refine List.map_congr_left fun j hj => ?_
    simp [hs j (by simpa using hj)]
  rw [e]
  exact ho
end Go.Proofs.Qxb6609504aMods.Add
