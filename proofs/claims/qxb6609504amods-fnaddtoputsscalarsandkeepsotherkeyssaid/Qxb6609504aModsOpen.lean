/-
  WHAT CAME IN, OPENED: a slice of (string, something) pairs, as 'IsPairs'; a slice of strings, as 'IsStrs'.
-/
import Derived.Test.Qxb6609504aModsChecked
import Derived.Test.Qxb6609504aModsWalksB
import Derived.ProofKit
import Derived.OpenShut
import Derived.ShutString
import Derived.ChangeSame
import Derived.Deep.Strs
import Derived.Deep.Slices
namespace Go.Proofs.Qxb6609504aMods.Add
open Go.ChangeShapes Go.WideShapes Go.ChangeAt Go.RowKit Go.Deep

theorem cells9 : Trym.prog.cellsOf 9 = 1 := by kernel_rfl
theorem cells2 : Trym.prog.cellsOf 2 = 1 := by kernel_rfl
theorem cells4 : Trym.prog.cellsOf 4 = 1 := by kernel_rfl
theorem cells22 : Trym.prog.cellsOf 22 = 1 := by kernel_rfl
theorem cells40 : Trym.prog.cellsOf 40 = 2 := by kernel_rfl
theorem cells42 : Trym.prog.cellsOf 42 = 2 := by kernel_rfl
theorem cells55 : Trym.prog.cellsOf 55 = 2 := by kernel_rfl
theorem cells57 : Trym.prog.cellsOf 57 = 2 := by kernel_rfl

section
variable {H : Type} {enc : TypeId × Value → H} {w : World} {base : Nat} {spare : Nat → Bool} {held : Bool}



theorem open_strs {fuel : Nat} {cs : List Value} {x : DataW H × List MemPlace} (h : DataW.trod enc Trym.prog w base spare held fuel 22 cs = some x) :
    ∃ v m l, cs = [v] ∧ IsStrs w v m l ∧ m ≤ maxLen ∧ ∀ j, j < m → (l j).size ≤ maxLen := by
  rcases open_slice1 Trym.underlying22 cells9 h with ⟨rfl, _⟩ | ⟨a, len, cap, m, n, V, D, Pl, rfl, hb, hl, hm, hmm, _, hx⟩
  · exact ⟨_, 0, fun _ => default, rfl, ⟨none, 0, 0, 0, rfl, fun h => absurd h (Nat.lt_irrefl 0), fun i hi => absurd hi (Nat.not_lt_zero _)⟩, Nat.zero_le _, fun j hj => absurd hj (Nat.not_lt_zero _)⟩
  · have hlen : len ≤ m := by rw [hmm]; split <;> omega
    obtain ⟨l, hl'⟩ := choose_lt (α := ByteArray) (n := len) (p := fun i s => V i = .string s ∧ s.size ≤ maxLen) (fun i hi => by
      obtain ⟨s, e, _, hs⟩ := DataW.trod_string Trym.underlying9 (hx i (by omega)).2
      exact ⟨s, by simpa using e, hs⟩)
    refine ⟨_, len, l, rfl, ⟨some a, cap, a.block, a.off, rfl, fun h0 => ?_, fun i hi => ?_⟩, by omega, fun j hj => (hl' j hj).2⟩
    · have h1 := (hx 0 (by omega)).1
      obtain ⟨b, o, spot⟩ := a
      have hspot : spot = none := by simpa [Addr.add] using World.cell?_spot h1
      subst hspot
      rfl
    · have h1 := (hx i (by omega)).1
      have h0 := (hx 0 (by omega)).1
      obtain ⟨b, o, spot⟩ := a
      have hspot : spot = none := by simpa [Addr.add] using World.cell?_spot h0
      subst hspot
      rw [add_plain] at h1
      rw [h1, (hl' i hi).1]

theorem list2 {α : Type} {l : List α} (h : l.length = 2) : ∃ a b, l = [a, b] := by
  match l, h with
  | [a, b], _ => exact ⟨a, b, rfl⟩

/-- The pairs, whatever stands second ('q': what is known of it). -/
theorem open_pairs {t s e : TypeId} {f0 f1 : Field} {fuel : Nat} {cs : List Value} {x : DataW H × List MemPlace} (q : Value → Prop)
    (ht : Trym.prog.underlying t = some (.slice s)) (hs : Trym.prog.underlying s = some (.struct #[f0, f1])) (hc : Trym.prog.cellsOf s = 2)
    (e0 : f0.type = 9 ∧ f0.offset = 0) (e1 : f1.type = e ∧ f1.offset = 1) (hce : Trym.prog.cellsOf e = 1)
    (hq : ∀ n v y, DataW.trod enc Trym.prog w base spare held n e [v] = some y → q v)
    (h : DataW.trod enc Trym.prog w base spare held fuel t cs = some x) :
    ∃ v m f g, cs = [v] ∧ IsPairs w v m f g ∧ m ≤ maxLen ∧ (∀ j, j < m → (f j).size ≤ maxLen) ∧ ∀ j, j < m → q (g j) := by
  rcases open_slice ht h with ⟨rfl, _⟩ | ⟨a, len, cap, m, n, D, Pl, rfl, hb, hl, hm, hmm, _, hx⟩
  · exact ⟨_, 0, fun _ => default, fun _ => .int .i64 0, rfl, ⟨none, 0, 0, 0, rfl, fun h => absurd h (Nat.lt_irrefl 0), fun i hi => absurd hi (Nat.not_lt_zero _)⟩, Nat.zero_le _, fun j hj => absurd hj (Nat.not_lt_zero _), fun j hj => absurd hj (Nat.not_lt_zero _)⟩
  · have hlen : len ≤ m := by rw [hmm]; split <;> omega
    rw [hc] at hx
    have key : ∀ i, i < len → ∃ p : ByteArray × Value, w.cell? ((a.add (i * 2)).add 0) = some (.string p.1) ∧ w.cell? ((a.add (i * 2)).add 1) = some p.2 ∧ p.1.size ≤ maxLen ∧ q p.2 := fun i hi => by
      obtain ⟨cs', h1, h2⟩ := hx i (by omega)
      obtain ⟨_, hl2, hcell⟩ := World.cells?_some h1
      obtain ⟨c0, c1, rfl⟩ := list2 hl2
      obtain ⟨y0, y1, k, _, _, t0, t1⟩ := trod_struct2 hs h2
      rw [e0.1, e0.2, cells9] at t0
      rw [e1.1, e1.2, hce] at t1
      simp only [List.drop_zero, List.take_succ_cons, List.take_zero] at t0
      simp only [List.drop_succ_cons, List.drop_zero, List.take_succ_cons, List.take_zero] at t1
      obtain ⟨s, es, _, hs'⟩ := DataW.trod_string Trym.underlying9 t0
      have es' : c0 = .string s := by simpa using es
      refine ⟨(s, c1), ?_, ?_, hs', hq _ _ _ t1⟩
      · rw [hcell 0 (by omega), es']; rfl
      · rw [hcell 1 (by omega)]; rfl
    obtain ⟨p, hp⟩ := choose_lt (α := ByteArray × Value) (n := len) (p := fun i p => w.cell? ((a.add (i * 2)).add 0) = some (.string p.1) ∧ w.cell? ((a.add (i * 2)).add 1) = some p.2 ∧ p.1.size ≤ maxLen ∧ q p.2) key
    have plain : 0 < len → a.spot = none := fun h0 => by
      have h1 := (hp 0 h0).1
      simpa [Addr.add] using World.cell?_spot h1
    obtain ⟨b, o, spot⟩ := a
    refine ⟨_, len, fun i => (p i).1, fun i => (p i).2, rfl, ⟨_, cap, b, o, rfl, fun h0 => ?_, fun i hi => ?_⟩, by omega, fun j hj => (hp j hj).2.2.1, fun j hj => (hp j hj).2.2.2⟩
    · have := plain h0
      dsimp only at this
      subst this
      rfl
    · have := plain (by omega)
      dsimp only at this
      subst this
      have h1 := (hp i hi).1
      have h2 := (hp i hi).2.1
      rw [add_plain, add_plain] at h1 h2
      exact ⟨h1, h2⟩

theorem one_cell {t s : TypeId} {r : Reach} {b0 : Nat} {v u : Value} (ht : Trym.prog.underlying t = some (.slice s)) (hv : Value.okWide Trym.prog w r b0 t v) (e : v.cells.toList = [u]) : v = u := by
  obtain ⟨a, l, c, rfl⟩ := okWide_slice ht hv
  simpa [Value.cells] using e

/-- Pairs of a string and a list of strings. -/
theorem open_lists {r : Reach} {b0 : Nat} {v : Value} {d : DataW H} {p : List MemPlace} (hv : Value.okWide Trym.prog w r b0 36 v) (h : DataW.Trod enc Trym.prog w base spare held 36 v d p) :
    ∃ (n : Nat) (f : Nat → ByteArray) (G : Nat → Value) (ml : Nat → Nat) (ll : Nat → Nat → ByteArray), IsPairs w v n f G ∧ n ≤ maxLen ∧ (∀ j, j < n → (f j).size ≤ maxLen) ∧ (∀ i, i < n → IsStrs w (G i) (ml i) (ll i) ∧ ml i ≤ maxLen) ∧ ∀ i j, i < n → j < ml i → (ll i j).size ≤ maxLen := by
  obtain ⟨fuel, hf⟩ := h
  obtain ⟨u, n, f, G, hu, hP, hn, hk, hq⟩ := open_pairs (fun g => ∃ z : Nat × (Nat → ByteArray), IsStrs w g z.1 z.2 ∧ z.1 ≤ maxLen ∧ ∀ j, j < z.1 → (z.2 j).size ≤ maxLen) Trym.underlying36 Trym.underlying40 cells40 ⟨rfl, rfl⟩ ⟨rfl, rfl⟩ cells22 (fun k v y hy => by
    obtain ⟨v', m, l, hv', hs, hm, hl⟩ := open_strs hy
    have : v = v' := by simpa using hv'
    exact ⟨(m, l), by rw [this]; exact hs, hm, hl⟩) hf
  have hvu := one_cell Trym.underlying36 hv hu
  subst hvu
  obtain ⟨z, hz⟩ := choose_lt hq
  exact ⟨n, f, G, fun i => (z i).1, fun i => (z i).2, hP, hn, hk, fun i hi => ⟨(hz i hi).1, (hz i hi).2.1⟩, fun i j hi hj => (hz i hi).2.2 j hj⟩

/-- Pairs of a string and an int. -/
theorem open_ints' {r : Reach} {b0 : Nat} {v : Value} {d : DataW H} {p : List MemPlace} (hv : Value.okWide Trym.prog w r b0 37 v) (h : DataW.Trod enc Trym.prog w base spare held 37 v d p) :
    ∃ (n : Nat) (f : Nat → ByteArray) (g : Nat → Int), IsPairs w v n f (fun i => .int .i64 (g i)) ∧ n ≤ maxLen ∧ (∀ j, j < n → (f j).size ≤ maxLen) ∧ ∀ j, j < n → (Lit.int .i64 (g j)).wf = true := by
  obtain ⟨fuel, hf⟩ := h
  obtain ⟨u, n, f, G, hu, ⟨a, c, b, o, e, ha, hP⟩, hn, hk, hq⟩ := open_pairs (fun g => ∃ z : Int, g = .int .i64 z ∧ (Lit.int .i64 z).wf = true) Trym.underlying37 Trym.underlying42 cells42 ⟨rfl, rfl⟩ ⟨rfl, rfl⟩ cells2 (fun k v y hy => by
    obtain ⟨z, hz, _, hw⟩ := DataW.trod_int Trym.underlying2 hy
    exact ⟨z, by simpa using hz, hw⟩) hf
  have hvu := one_cell Trym.underlying37 hv hu
  subst hvu
  obtain ⟨z, hz⟩ := choose_lt hq
  exact ⟨n, f, z, ⟨a, c, b, o, e, ha, fun i hi => ⟨(hP i hi).1, by rw [(hP i hi).2, (hz i hi).1]⟩⟩, hn, hk, fun i hi => (hz i hi).2⟩

end
end Go.Proofs.Qxb6609504aMods.Add
