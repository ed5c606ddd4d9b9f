/-
  WHAT A VALUE OF THE TABLE IS ('AV', 'Rep'), AND THE WALK of 'decoded'.
-/
import Derived.Test.Qxb6609504aModsWalksC
import Derived.WalkKit
import Derived.Below
import Derived.Deep.QuietTactic
import Derived.BigQuiet
import Derived.WalkSpells
import Derived.WalkLawsBesides
import Derived.Deep.OwnRows
namespace Go.Proofs.Qxb6609504aMods.Add
open Go.RowKit
set_option linter.unusedVariables false
set_option linter.unusedSimpArgs false

abbrev nilS : ByteArray := { data := #[] }

/-- A table's value as zzViewEntry tells it: its kind (1 int64, 2 []any of strings, 3 string, 4 bool, 6 []string) and what it holds. -/
structure AV where
  kind : Int
  s : ByteArray
  n : Int
  b : Bool
  m : Nat
  l : Nat → ByteArray

def avInt (n : Int) : AV := ⟨1, nilS, n, false, 0, fun _ => nilS⟩
def avStr (s : ByteArray) : AV := ⟨3, s, 0, false, 0, fun _ => nilS⟩
def avBool (b : Bool) : AV := ⟨4, nilS, 0, b, 0, fun _ => nilS⟩
def avAny (m : Nat) (l : Nat → ByteArray) : AV := ⟨2, nilS, 0, false, m, l⟩
def avList (m : Nat) (l : Nat → ByteArray) : AV := ⟨6, nilS, 0, false, m, l⟩

/-- The value 'v' is, in 'w', a scalar 'x'. -/
def Scal (v : Value) (x : AV) : Prop :=
  (∃ n, v = .iface 2 (.int .i64 n) ∧ x = avInt n) ∨ (∃ s, v = .iface 9 (.string s) ∧ x = avStr s) ∨ (∃ b, v = .iface 4 (.bool b) ∧ x = avBool b)
/-- .. a []any of strings of the call's own. -/
def Anys (w : World) (v : Value) (x : AV) : Prop :=
  ∃ g m l, v = .iface 73 (.slice (some ⟨g, 0, none⟩) m m) ∧ x = avAny m l ∧ m ≤ 1048576 ∧ ∀ i, i < m → w.cell? ⟨g, i, none⟩ = some (.iface 9 (.string (l i)))
/-- .. a []string. -/
def Strs (w : World) (v : Value) (m : Nat) (l : Nat → ByteArray) : Prop := ∃ u, v = .iface 22 u ∧ m ≤ 1048576 ∧ IsStrs w u m l

def Rep (w : World) (v : Value) (x : AV) : Prop := Scal v x ∨ Anys w v x ∨ ∃ m l, Strs w v m l ∧ x = avList m l

theorem lt_of_cell {w : World} {g i : Nat} {v : Value} (hc : w.cell? ⟨g, i, none⟩ = some v) : g < w.heap.size := by
  by_cases h : g < w.heap.size
  · exact h
  · exfalso; simp [World.cell?, Array.getElem?_eq_none (Nat.not_lt.1 h)] at hc

theorem IsStrs.kept {w w' : World} {v : Value} {n : Nat} {f : Nat → ByteArray} (h : IsStrs w v n f) (hk : ∀ b i u, w.cell? ⟨b, i, none⟩ = some u → w'.cell? ⟨b, i, none⟩ = some u) : IsStrs w' v n f := by
  obtain ⟨a, c, b, o, hv, ha, hc⟩ := h
  exact ⟨a, c, b, o, hv, ha, fun i hi => hk _ _ _ (hc i hi)⟩
theorem Rep.kept {w w' : World} {v : Value} {x : AV} (h : Rep w v x) (hk : ∀ b i u, w.cell? ⟨b, i, none⟩ = some u → w'.cell? ⟨b, i, none⟩ = some u) : Rep w' v x := by
  rcases h with h | ⟨g, m, l, hv, hx, hm, hc⟩ | ⟨m, l, ⟨u, hv, hm, hs⟩, hx⟩
  · exact .inl h
  · exact .inr (.inl ⟨g, m, l, hv, hx, hm, fun i hi => hk _ _ _ (hc i hi)⟩)
  · exact .inr (.inr ⟨m, l, ⟨u, hv, hm, hs.kept hk⟩, hx⟩)
theorem kept_below {w w' : World} (h : Below w.heap.size w w') : ∀ b i u, w.cell? ⟨b, i, none⟩ = some u → w'.cell? ⟨b, i, none⟩ = some u := fun b i u hu => (h.cell (p := ⟨b, i, none⟩) (lt_of_cell hu)).trans hu
theorem kept_grown {w w' : World} {b0 : Nat} {L : List (ByteArray × Value)} (hm : IsMap w b0 L) (h : w.grownBy w' (some b0)) : ∀ b i u, w.cell? ⟨b, i, none⟩ = some u → w'.cell? ⟨b, i, none⟩ = some u := fun b i u hu => by
  have hb : b ≠ b0 := by
    rintro rfl
    obtain ⟨es, clock, he, _⟩ := hm
    simp [World.cell?, he] at hu
  exact (World.cell?_of_block (w := w) (h.block b (lt_of_cell hu) (fun e => hb (Option.some.inj e)))).trans hu

theorem info20 : (Trym.prog.info? 20).map (fun i => (i.zero, i.size, i.bytes)) = some (some .nilIface, 1, 16) := by kernel_rfl
theorem info9 : (Trym.prog.info? 9).map (fun i => (i.zero, i.size, i.bytes)) = some (some (.string nilS), 1, 16) := by kernel_rfl

theorem ta2_22 (n : Int) (w : World) : (Instr.typeAssert (.iface 2 (.int .i64 n)) 20 22 true).run Trym.prog w = .ok (.tuple #[.slice none 0 0, .bool false]) w := by kernel_rfl
theorem ta9_22 (s : ByteArray) (w : World) : (Instr.typeAssert (.iface 9 (.string s)) 20 22 true).run Trym.prog w = .ok (.tuple #[.slice none 0 0, .bool false]) w := by kernel_rfl
theorem ta4_22 (b : Bool) (w : World) : (Instr.typeAssert (.iface 4 (.bool b)) 20 22 true).run Trym.prog w = .ok (.tuple #[.slice none 0 0, .bool false]) w := by kernel_rfl
theorem ta22_22 (a : Option Addr) (m c : Nat) (w : World) : (Instr.typeAssert (.iface 22 (.slice a m c)) 20 22 true).run Trym.prog w = .ok (.tuple #[.slice a m c, .bool true]) w := by kernel_rfl

theorem dec27_scal (v : Value) (x : AV) (w : World) (h : Scal v x) : Calls Trym.prog 27 #[v] w fun e w' => e = .returned v ∧ w = w' := by
  rcases h with ⟨n, rfl, _⟩ | ⟨s, rfl, _⟩ | ⟨b, rfl, _⟩
  · have ht := ta2_22
    go_enter Trym.func27, Trym.ntmps27
    go_wp2
    go_ret
    exact ⟨rfl, rfl⟩
  · have ht := ta9_22
    go_enter Trym.func27, Trym.ntmps27
    go_wp2
    go_ret
    exact ⟨rfl, rfl⟩
  · have ht := ta4_22
    go_enter Trym.func27, Trym.ntmps27
    go_wp2
    go_ret
    exact ⟨rfl, rfl⟩

set_option maxHeartbeats 400000 in
theorem dec27_strs (v : Value) (m : Nat) (l : Nat → ByteArray) (w : World) (h : Strs w v m l) : Calls Trym.prog 27 #[v] w fun e w' => (∃ u, e = .returned u ∧ Anys w' u (avAny m l)) ∧ Below w.heap.size w w' := by
  obtain ⟨_, rfl, hm, a, c, b, o, rfl, ha, hc⟩ := h
  have HA := hid ha
  have HC := hid hc
  clear ha hc
  have ht := ta22_22
  have hmk := fun W => run_make_row' (P := Trym.prog) 73 20 .nilIface 16 Trym.underlying73 info20 rfl .i64 .i64 m (by omega) (by omega) W
  go_enter Trym.func27, Trym.ntmps27
  go_wp2_with fail
  go_loopw [21] (fun i wr => ∃ k : Nat, k ≤ m ∧ i = .int .i64 (k : Int) ∧ Hid (wr.rowIs w.heap.size 20 m (fun j => if j < k then .iface 9 (.string (l j)) else .nilIface)) ∧ Below w.heap.size w wr) (fun i _ => m - (intOf i).toNat)
  case atStart => exact ⟨0, Nat.zero_le _, rfl, hid ((World.rowIs_made w .nilIface m 20).congr (fun i hi => by simp)), (Below.refl _ _).alloc (Nat.le_refl _) _⟩
  case round =>
    obtain ⟨k, hk, rfl, HR, hB⟩ := hrel
    by_cases hlt : k < m
    · obtain rfl := HA.out (by omega)
      have h0 := HC.out k hlt
      have hcell := (hB.cell (p := ⟨b, o + k, none⟩) (lt_of_cell h0)).trans h0
      have hold := HR.out.cell hlt
      have hfz := HR.out.frozen k
      rw [if_neg (Nat.lt_irrefl k)] at hold
      clear h0
      go_wp2
      go_roundw
      case rel => exact ⟨k + 1, by omega, by go_num, hid ((HR.out.set k _).congr (fun i hi => by
        by_cases e : i = k
        · subst e; simp
        · rw [if_neg e]
          by_cases h1 : i < k
          · rw [if_pos h1, if_pos (by omega)]
          · rw [if_neg h1, if_neg (by omega)])), hB.setCell (Nat.le_refl _) _⟩
      case measure => simp [intOf]; omega
    · obtain rfl : k = m := by omega
      go_wp2
      go_ret
      exact ⟨⟨_, rfl, w.heap.size, k, l, rfl, rfl, hm, fun i hi => by rw [HR.out.cell hi, if_pos hi]⟩, hB⟩
end Go.Proofs.Qxb6609504aMods.Add
