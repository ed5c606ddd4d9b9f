/-
  A row of two-cell structs that the call makes and fills; one store into the call's own map out of a row.
-/
import Derived.Test.Qxb6609504aModsWalksG
import Derived.WalkKit
import Derived.Below
import Derived.Deep.QuietTactic
import Derived.BigQuiet
import Derived.WalkSpells
import Derived.WalkLawsBesides
import Derived.Deep.OwnRows
import Derived.Deep.RegionWith
import Derived.RegionTactic
import Derived.Carry
namespace Go.Proofs.Qxb6609504aMods.Add
open Go.RowKit Go.Deep
set_option linter.unusedVariables false
set_option linter.unusedSimpArgs false

theorem info67 : (Trym.prog.info? 67).map (fun i => (i.zero, i.size, i.bytes)) = some (some (.agg #[.string nilS, .nilIface]), 2, 32) := by kernel_rfl

/-- An unfilled keyValue's cell number j. -/
def zKV (j : Nat) : Value := if j % 2 = 0 then .string nilS else .nilIface

/-- 'make([]keyValue, n)'. -/
theorem make65 (n : Nat) (hn : n ≤ 1048576) (W : World) : (Instr.makeSlice 65 (.int .i64 (n : Int)) (.int .i64 (n : Int))).run Trym.prog W = .ok (.slice (some ⟨W.heap.size, 0, none⟩) n n) (W.alloc (.cells (madeCells #[.string nilS, .nilIface] (n * 2)) 67)) := by
  obtain ⟨i, hi, hz⟩ := Option.map_eq_some_iff.1 info67
  simp only [Prod.mk.injEq] at hz
  obtain ⟨h1, h2, h3⟩ := hz
  have := run_make (P := Trym.prog) W 65 67 i _ Trym.underlying65 hi h1 .i64 .i64 n n (by omega) (Int.le_refl _) (by rw [h3]; omega) (by omega)
  simpa [h2, Value.cells] using this

theorem rowKV_made (w : World) (n : Nat) : (w.alloc (.cells (madeCells #[.string nilS, .nilIface] (n * 2)) 67)).rowIs w.heap.size 67 (n * 2) zKV :=
  ⟨_, blk_alloc_new _ _, size_madeCells _ _, fun i hi => by
    simp only [madeCells, Array.getElem?_map, zKV]
    rw [Array.getElem?_range, if_pos hi]
    have : i % 2 = 0 ∨ i % 2 = 1 := by omega
    rcases this with h | h <;> simp [h]⟩

/-- The filled part and the unfilled one. -/
def kvRow (f : Nat → ByteArray) (G : Nat → Value) (k j : Nat) : Value := if j < k * 2 then (if j % 2 = 0 then .string (f (j / 2)) else G (j / 2)) else zKV j

theorem rowKV_next {w : World} {g n k : Nat} {f : Nat → ByteArray} {G : Nat → Value} {a b : Value} (h : w.rowIs g 67 (n * 2) (kvRow f G k)) (ha : a = .string (f k)) (hb : b = G k) :
    ((w.setCell ⟨g, k * 2, none⟩ a).setCell ⟨g, k * 2 + 1, none⟩ b).rowIs g 67 (n * 2) (kvRow f G (k + 1)) :=
  ((h.set (k * 2) a).set (k * 2 + 1) b).congr (fun j hj => by
    subst ha; subst hb
    unfold kvRow
    by_cases e1 : j = k * 2 + 1
    · subst e1
      rw [if_pos rfl, if_pos (by omega), if_neg (by omega), show (k * 2 + 1) / 2 = k by omega]
    · rw [if_neg e1]
      by_cases e0 : j = k * 2
      · subst e0
        rw [if_pos rfl, if_pos (by omega), if_pos (by omega), show k * 2 / 2 = k by omega]
      · rw [if_neg e0]
        by_cases h1 : j < k * 2
        · have h2 : j < (k + 1) * 2 := by omega
          rw [if_pos h1, if_pos h2]
        · have h2 : ¬ j < (k + 1) * 2 := by omega
          rw [if_neg h1, if_neg h2])

theorem rowKV_pairs {w : World} {g n : Nat} {f : Nat → ByteArray} {G : Nat → Value} (h : w.rowIs g 67 (n * 2) (kvRow f G n)) : IsPairs w (.slice (some ⟨g, 0, none⟩) n n) n f G :=
  ⟨_, n, g, 0, rfl, fun _ => rfl, fun i hi => by
    have h0 := h.cell (i := i * 2) (by omega)
    have h1 := h.cell (i := i * 2 + 1) (by omega)
    unfold kvRow at h0 h1
    rw [if_pos (by omega), if_pos (by omega), show i * 2 / 2 = i by omega] at h0
    rw [if_pos (by omega), if_neg (by omega), show (i * 2 + 1) / 2 = i by omega] at h1
    rw [Nat.zero_add]
    exact ⟨h0, h1⟩⟩

theorem row_grown {w w' : World} {b tb : Nat} {t : TypeId} {n : Nat} {f : Nat → Value} (h : w.rowIs b t n f) (hg : w.grownBy w' (some tb)) (hne : b ≠ tb) : w'.rowIs b t n f :=
  h.of_block (hg.block b h.lt (fun e => hne (Option.some.inj e)))

/-- zzViewTable on a table into which first the 'pf', then the 'f' were stored, asked for all of them. -/
theorem view29t (tb : Nat) (pf : Nat → ByteArray) (PV : Nat → Value) (PX : Nat → AV) (m : Nat) (f : Nat → ByteArray) (V : Nat → Value) (X : Nat → AV) (n : Nat) (av : Value) (N : Nat) (ks : Nat → ByteArray) (w : World) (hN : N ≤ 1048576)
    (hM : IsMap w tb (Tab.putsN (Tab.putsN [] pf PV m) f V n)) (hPR : ∀ i, i < m → Rep w (PV i) (PX i)) (hR : ∀ i, i < n → Rep w (V i) (X i)) (hk : IsStrs w av N ks)
    (hcov : ∀ k, (∃ j, j < N ∧ ks j = k) ↔ (∃ i, i < n ∧ f i = k) ∨ ∃ i, i < m ∧ pf i = k) :
    Calls Trym.prog 29 #[.map (some tb), av] w fun e w' => ∃ (lv : Nat → Value) (Y : Nat → AV), e = .returned (.tuple #[.int .i64 (Tab.dist ks N : Nat), .slice (some ⟨w.heap.size, 0, none⟩) N N, .slice (some ⟨w.heap.size + 1, 0, none⟩) N N, .slice (some ⟨w.heap.size + 1 + 1, 0, none⟩) N N, .slice (some ⟨w.heap.size + 1 + 1 + 1, 0, none⟩) N N, .slice (some ⟨w.heap.size + 1 + 1 + 1 + 1, 0, none⟩) N N]) ∧
      (w'.rowIs w.heap.size 3 N (fun j => .int .i64 (Y j).kind) ∧ w'.rowIs (w.heap.size + 1) 9 N (fun j => .string (Y j).s) ∧ w'.rowIs (w.heap.size + 1 + 1) 2 N (fun j => .int .i64 (Y j).n) ∧ w'.rowIs (w.heap.size + 1 + 1 + 1) 4 N (fun j => .bool (Y j).b) ∧ w'.rowIs (w.heap.size + 1 + 1 + 1 + 1) 22 N lv) ∧
      (∀ j, j < N → IsStrs w' (lv j) (Y j).m (Y j).l) ∧ (∀ j, j < N → Tab.Says f X n pf PX m (ks j) (Y j)) ∧ Below w.heap.size w w' := by
  have hex : ∀ j, ∃ vy : Value × AV, j < N → Tab.look (Tab.putsN (Tab.putsN [] pf PV m) f V n) (ks j) = some vy.1 ∧ Rep w vy.1 vy.2 ∧ Tab.Says f X n pf PX m (ks j) vy.2 := fun j => by
    by_cases hj : j < N
    · obtain ⟨v, y, h1, h2, h3⟩ := Tab.says_look f V X n pf PV PX m (Rep w) hR hPR (ks j) ((hcov (ks j)).1 ⟨j, hj, rfl⟩)
      exact ⟨(v, y), fun _ => ⟨h1, h2, h3⟩⟩
    · exact ⟨(.nilIface, avInt 0), fun h => absurd h hj⟩
  have hlen := Tab.length_two f V n pf PV m ks N hcov
  refine (view29 tb _ av N ks (fun j => (Classical.choose (hex j)).1) (fun j => (Classical.choose (hex j)).2) w hN hM hk (fun j hj => (Classical.choose_spec (hex j) hj).1) (fun j hj => (Classical.choose_spec (hex j) hj).2.1)).mono ?_
  rintro e w' ⟨lv, rfl, h1, h2, h3, h4, h5, h6, h7⟩
  exact ⟨lv, fun j => (Classical.choose (hex j)).2, by rw [hlen], ⟨h1, h2, h3, h4, h5⟩, h6, fun j hj => (Classical.choose_spec (hex j) hj).2.2, h7⟩
end Go.Proofs.Qxb6609504aMods.Add
