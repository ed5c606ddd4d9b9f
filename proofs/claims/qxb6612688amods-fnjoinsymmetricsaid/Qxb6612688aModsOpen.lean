/-
  A 'Props' THAT CAME IN, BY VALUE, OPENED: eight cells, strings and ints.
-/
import Derived.Test.Qxb6612688aModsChecked
import Derived.ProofKit
import Derived.OpenShut
import Derived.ShutString
import Derived.Deep.Strs
namespace Go.Proofs.Qxb6612688aMods.Join
open Go.ChangeShapes Go.WideShapes Go.ChangeAt Go.RowKit Go.Deep

theorem array8 {α : Type} {cs : Array α} (h : cs.size = 8) : ∃ c0 c1 c2 c3 c4 c5 c6 c7, cs = #[c0, c1, c2, c3, c4, c5, c6, c7] := by
  obtain ⟨l⟩ := cs
  match l, h with
  | [c0, c1, c2, c3, c4, c5, c6, c7], _ => exact ⟨c0, c1, c2, c3, c4, c5, c6, c7, rfl⟩

theorem cells27 : Trym.prog.cellsOf 27 = 8 := by kernel_rfl
theorem cells25 : Trym.prog.cellsOf 25 = 3 := by kernel_rfl
theorem cells9 : Trym.prog.cellsOf 9 = 1 := by kernel_rfl
theorem cells3 : Trym.prog.cellsOf 3 = 1 := by kernel_rfl

section
variable {H : Type} {enc : TypeId × Value → H} {w : World} {base : Nat} {spare : Nat → Bool} {held : Bool}

theorem open_pos {fuel : Nat} {c0 c1 c2 : Value} {y : DataW H × List MemPlace} (h : DataW.trod enc Trym.prog w base spare held fuel 25 [c0, c1, c2] = some y) :
    ∃ (f : ByteArray) (l c : Int), c0 = .string f ∧ c1 = .int .i64 l ∧ c2 = .int .i64 c ∧ f.size ≤ maxLen := by
  obtain ⟨y0, y1, y2, n, hx, _, h0, h1, h2⟩ := trod_struct3 Trym.underlying25 h
  simp [cells9] at h0
  simp [cells3] at h1 h2
  obtain ⟨f, e0, _, hf⟩ := DataW.trod_string Trym.underlying9 h0
  obtain ⟨l, e1, _⟩ := DataW.trod_int Trym.underlying3 h1
  obtain ⟨c, e2, _⟩ := DataW.trod_int Trym.underlying3 h2
  simp at e0 e1 e2
  exact ⟨f, l, c, e0, e1, e2, hf⟩

theorem list4 {α : Type} {l : List α} (h : l.length = 4) : ∃ a b c d, l = [a, b, c, d] := by
  match l, h with
  | [a, b, c, d], _ => exact ⟨a, b, c, d, rfl⟩

theorem open_props {r : Reach} {b0 : Nat} {v : Value} {d : DataW H} {p : List MemPlace} (hv : Value.okWide Trym.prog w r b0 27 v) (h : DataW.Trod enc Trym.prog w base spare held 27 v d p) :
    ∃ (t a f g : ByteArray) (l c m n : Int), v = .agg #[.string t, .string a, .string f, .int .i64 l, .int .i64 c, .string g, .int .i64 m, .int .i64 n] ∧ t.size ≤ maxLen ∧ a.size ≤ maxLen ∧ f.size ≤ maxLen ∧ g.size ≤ maxLen := by
  obtain ⟨cs, rfl, hsz⟩ := okWide_struct Trym.underlying27 hv
  obtain ⟨c0, c1, c2, c3, c4, c5, c6, c7, rfl⟩ := array8 (hsz.trans cells27)
  obtain ⟨fuel, hf⟩ := h
  obtain ⟨xs, n, _, _, _, hlen, hfs⟩ := DataW.trod_struct Trym.underlying27 hf
  obtain ⟨y0, y1, y2, y3, rfl⟩ := list4 hlen
  have h0 := hfs 0 _ rfl
  have h1 := hfs 1 _ rfl
  have h2 := hfs 2 _ rfl
  have h3 := hfs 3 _ rfl
  simp [cells9, Value.cells] at h0 h1
  simp [cells25, Value.cells] at h2 h3
  obtain ⟨t, e0, _, ht⟩ := DataW.trod_string Trym.underlying9 h0
  obtain ⟨a, e1, _, ha⟩ := DataW.trod_string Trym.underlying9 h1
  obtain ⟨f, l, c, e2, e3, e4, hff⟩ := open_pos h2
  obtain ⟨g, m, k, e5, e6, e7, hg⟩ := open_pos h3
  simp at e0 e1
  subst e0 e1 e2 e3 e4 e5 e6 e7
  exact ⟨t, a, f, g, l, c, m, k, rfl, ht, ha, hff, hg⟩
end
end Go.Proofs.Qxb6612688aMods.Join
