/-
  WHAT CAME IN, OPENED: slices of (string, string) and of (string, bool) pairs.
-/
import Derived.Test.Qxb6609504aModsOpen
import Derived.ProofKit
import Derived.OpenShut
import Derived.ShutString
import Derived.ChangeSame
import Derived.Deep.Strs
import Derived.Deep.Slices
namespace Go.Proofs.Qxb6609504aMods.Add
open Go.ChangeShapes Go.WideShapes Go.ChangeAt Go.RowKit Go.Deep

section
variable {H : Type} {enc : TypeId × Value → H} {w : World} {base : Nat} {spare : Nat → Bool} {held : Bool}

/-- Pairs of a string and a string. -/
theorem open_strs2 {r : Reach} {b0 : Nat} {v : Value} {d : DataW H} {p : List MemPlace} (hv : Value.okWide Trym.prog w r b0 51 v) (h : DataW.Trod enc Trym.prog w base spare held 51 v d p) :
    ∃ (n : Nat) (f g : Nat → ByteArray), IsPairs w v n f (fun i => .string (g i)) ∧ n ≤ maxLen ∧ (∀ j, j < n → (f j).size ≤ maxLen) ∧ ∀ j, j < n → (g j).size ≤ maxLen := by
  obtain ⟨fuel, hf⟩ := h
  obtain ⟨u, n, f, G, hu, ⟨a, c, b, o, e, ha, hP⟩, hn, hk, hq⟩ := open_pairs (fun g => ∃ z : ByteArray, g = .string z ∧ z.size ≤ maxLen) Trym.underlying51 Trym.underlying55 cells55 ⟨rfl, rfl⟩ ⟨rfl, rfl⟩ cells9 (fun k v y hy => by
    obtain ⟨z, hz, _, hw⟩ := DataW.trod_string Trym.underlying9 hy
    exact ⟨z, by simpa using hz, hw⟩) hf
  have hvu := one_cell Trym.underlying51 hv hu
  subst hvu
  obtain ⟨z, hz⟩ := choose_lt hq
  exact ⟨n, f, z, ⟨a, c, b, o, e, ha, fun i hi => ⟨(hP i hi).1, by rw [(hP i hi).2, (hz i hi).1]⟩⟩, hn, hk, fun i hi => (hz i hi).2⟩

/-- Pairs of a string and a bool. -/
theorem open_bools {r : Reach} {b0 : Nat} {v : Value} {d : DataW H} {p : List MemPlace} (hv : Value.okWide Trym.prog w r b0 52 v) (h : DataW.Trod enc Trym.prog w base spare held 52 v d p) :
    ∃ (n : Nat) (f : Nat → ByteArray) (g : Nat → Bool), IsPairs w v n f (fun i => .bool (g i)) ∧ n ≤ maxLen ∧ ∀ j, j < n → (f j).size ≤ maxLen := by
  obtain ⟨fuel, hf⟩ := h
  obtain ⟨u, n, f, G, hu, ⟨a, c, b, o, e, ha, hP⟩, hn, hk, hq⟩ := open_pairs (fun g => ∃ z : Bool, g = .bool z) Trym.underlying52 Trym.underlying57 cells57 ⟨rfl, rfl⟩ ⟨rfl, rfl⟩ cells4 (fun k v y hy => by
    obtain ⟨z, hz, _⟩ := DataW.trod_bool Trym.underlying4 hy
    exact ⟨z, by simpa using hz⟩) hf
  have hvu := one_cell Trym.underlying52 hv hu
  subst hvu
  obtain ⟨z, hz⟩ := choose_lt hq
  exact ⟨n, f, z, ⟨a, c, b, o, e, ha, fun i hi => ⟨(hP i hi).1, by rw [(hP i hi).2, hz i hi]⟩⟩, hn, hk⟩

end
end Go.Proofs.Qxb6609504aMods.Add
