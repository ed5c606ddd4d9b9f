import Derived.Test.Qxb6612688aModsWalksE
import Derived.WalkKit
import Derived.Below
import Derived.RegionTactic
import Derived.Deep.QuietTactic
import Derived.BigQuiet
import Derived.WalkSpells
import Derived.WalkLawsBesides
namespace Go.Proofs.Qxb6612688aMods.Join.Sym
open Go.RowKit
set_option linter.unusedVariables false
set_option linter.unusedSimpArgs false

set_option maxRecDepth 100000 in
set_option maxHeartbeats 1000000 in
theorem bytes9 (pt pa pf pg qt qa qf qg : ByteArray) (pl pc pm pn ql qc qm qn : Int) (w : World) :
    Calls Trym.prog 9 #[.agg #[.string pt, .string pa, .string pf, .int .i64 pl, .int .i64 pc, .string pg, .int .i64 pm, .int .i64 pn], .agg #[.string qt, .string qa, .string qf, .int .i64 ql, .int .i64 qc, .string qg, .int .i64 qm, .int .i64 qn]] w fun e w' => ∃ b : Bool, e = .returned (.bool b) ∧ Below w.heap.size w w' := by
  go_enter Trym.func9, Trym.ntmps9
  go_wp2
  all_goals go_ret
  all_goals exact ⟨_, rfl, ((Below.refl _ _).alloc (Nat.le_refl _) _).alloc (by simp) _⟩

set_option maxRecDepth 100000 in
set_option maxHeartbeats 1000000 in
theorem places12_p (q : Bool) (f g : ByteArray) (l c m n : Int) (w : World) :
    Calls Trym.prog 12 #[.bool true, .bool q, .agg #[.string f, .int .i64 l, .int .i64 c], .agg #[.string g, .int .i64 m, .int .i64 n], .agg #[.string f, .int .i64 l, .int .i64 c], .agg #[.string f, .int .i64 l, .int .i64 c]] w fun e w' => e = .returned (.bool true) ∧ Below w.heap.size w w' := by
  go_enter Trym.func12, Trym.ntmps12
  go_wp2
  go_ret
  exact ⟨rfl, ((((Below.refl _ _).alloc (Nat.le_refl _) _).alloc (by simp) _).alloc (by simp; omega) _).alloc (by simp; omega) _⟩

set_option maxRecDepth 100000 in
set_option maxHeartbeats 1000000 in
theorem places12_q (f g : ByteArray) (l c m n : Int) (w : World) :
    Calls Trym.prog 12 #[.bool false, .bool true, .agg #[.string f, .int .i64 l, .int .i64 c], .agg #[.string g, .int .i64 m, .int .i64 n], .agg #[.string g, .int .i64 m, .int .i64 n], .agg #[.string g, .int .i64 m, .int .i64 n]] w fun e w' => e = .returned (.bool true) ∧ Below w.heap.size w w' := by
  go_enter Trym.func12, Trym.ntmps12
  go_wp2
  go_ret
  exact ⟨rfl, ((((Below.refl _ _).alloc (Nat.le_refl _) _).alloc (by simp) _).alloc (by simp; omega) _).alloc (by simp; omega) _⟩

set_option maxRecDepth 100000 in
set_option maxHeartbeats 1000000 in
theorem places12_n (f g : ByteArray) (l c m n : Int) (w : World) :
    Calls Trym.prog 12 #[.bool false, .bool false, .agg #[.string f, .int .i64 l, .int .i64 c], .agg #[.string g, .int .i64 m, .int .i64 n], .agg #[.string f, .int .i64 l, .int .i64 c], .agg #[.string g, .int .i64 m, .int .i64 n]] w fun e w' => e = .returned (.bool true) ∧ Below w.heap.size w w' := by
  go_enter Trym.func12, Trym.ntmps12
  go_wp2
  go_ret
  exact ⟨rfl, ((((Below.refl _ _).alloc (Nat.le_refl _) _).alloc (by simp) _).alloc (by simp; omega) _).alloc (by simp; omega) _⟩

theorem emp {s : ByteArray} (h : s.toList.isEmpty = true) : s = { data := #[] } := by
  rw [ByteArray.toList_eq] at h
  obtain ⟨⟨x⟩⟩ := s
  simp at h
  rw [h]
theorem emp_nil : ({ data := #[] } : ByteArray).toList.isEmpty = true := by rw [ByteArray.toList_eq]; rfl

theorem cat_nil (a : ByteArray) : a ++ ({ data := #[] } : ByteArray) = a := by
  rw [show ({ data := #[] } : ByteArray) = ByteArray.empty from rfl]; exact ByteArray.append_empty
theorem nil_cat (a : ByteArray) : ({ data := #[] } : ByteArray) ++ a = a := by
  rw [show ({ data := #[] } : ByteArray) = ByteArray.empty from rfl]; exact ByteArray.empty_append
theorem add_nil (a : ByteArray) (h : decide (131072 < (a.size : Int)) = false) (w : World) : (Op.stringOp .add a { data := #[] }).run Trym.prog w = .ok (.string a) w := by
  have h' : (a.size : Int) ≤ 131072 := by simpa using h
  have := run_string_add_sum (P := Trym.prog) w a { data := #[] } (by have : ({ data := #[] } : ByteArray).size = 0 := rfl; omega)
  rwa [cat_nil] at this
theorem nil_add (a : ByteArray) (h : decide (131072 < (a.size : Int)) = false) (w : World) : (Op.stringOp .add { data := #[] } a).run Trym.prog w = .ok (.string a) w := by
  have h' : (a.size : Int) ≤ 131072 := by simpa using h
  have := run_string_add_sum (P := Trym.prog) w { data := #[] } a (by have : ({ data := #[] } : ByteArray).size = 0 := rfl; omega)
  rwa [nil_cat] at this

theorem nil_nil (w : World) : (Op.stringOp .add { data := #[] } { data := #[] }).run Trym.prog w = .ok (.string { data := #[] }) w := nil_add { data := #[] } rfl w

theorem err_alloc {w : World} {E : Nat} {nm : ByteArray} {l c : Int} (h : IsErr w E nm l c) (hE : E < w.heap.size) (o : Obj) : IsErr (w.alloc o) E nm l c := by
  obtain ⟨i0, i1, i2⟩ := h
  exact ⟨by rw [World.cell?_alloc_past _ _ _ hE]; exact i0, by rw [World.cell?_alloc_past _ _ _ hE]; exact i1, by rw [World.cell?_alloc_past _ _ _ hE]; exact i2⟩
theorem err_keep {w w' : World} {E B : Nat} {nm : ByteArray} {l c : Int} (h : IsErr w E nm l c) (hE : E < B) (hb : Below B w w') : IsErr w' E nm l c := by
  obtain ⟨i0, i1, i2⟩ := h
  exact ⟨(hb.cell hE).trans i0, (hb.cell hE).trans i1, (hb.cell hE).trans i2⟩
end Go.Proofs.Qxb6612688aMods.Join.Sym
