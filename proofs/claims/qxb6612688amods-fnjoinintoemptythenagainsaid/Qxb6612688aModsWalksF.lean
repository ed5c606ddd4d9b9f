import Derived.Test.Qxb6612688aModsWalksE
import Derived.WalkKit
import Derived.Below
import Derived.RegionTactic
import Derived.Deep.QuietTactic
import Derived.BigQuiet
import Derived.WalkSpells
import Derived.WalkLawsBesides
namespace Go.Proofs.Qxb6612688aMods.Join
open Go.RowKit
set_option linter.unusedVariables false
set_option linter.unusedSimpArgs false

theorem emp {s : ByteArray} (h : s.toList.isEmpty = true) : s = { data := #[] } := by
  rw [ByteArray.toList_eq] at h
  obtain ⟨⟨x⟩⟩ := s
  simp at h
  rw [h]

theorem emp_nil : ({ data := #[] } : ByteArray).toList.isEmpty = true := by rw [ByteArray.toList_eq]; rfl

set_option maxRecDepth 100000 in
set_option maxHeartbeats 1000000 in
theorem law5_big (qt qa qf qg : ByteArray) (ql qc qm qn : Int) (w : World) (h : 262144 < (qt.size : Int) ∨ 262144 < (qa.size : Int) ∨ 262144 < (qf.size : Int) ∨ 262144 < (qg.size : Int)) :
    Calls Trym.prog 5 #[.agg #[.string qt, .string qa, .string qf, .int .i64 ql, .int .i64 qc, .string qg, .int .i64 qm, .int .i64 qn]] w fun e w' => e = .returned (.bool true) ∧ Below w.heap.size w w' := by
  have HH := hid h
  clear h
  go_enter Trym.func5, Trym.ntmps5
  go_wp2_with fail
  refine (bytes13 qt qa qf qg ql qc qm qn _).mono ?_
  rintro e w1 ⟨b, rfl, hb⟩
  have hc := fun i => hb.cell (p := ⟨w.heap.size, i, none⟩) (by simp)
  simp [go_sem] at hc
  have hB : Below w.heap.size w w1 := Below.trans ((Below.refl _ _).alloc (Nat.le_refl _) _) (hb.mono (by simp))
  clear hb
  cases b
  · go_wp2
    go_ret
    exact ⟨rfl, hB⟩
  · by_cases k1 : 262144 < (qt.size : Int)
    · have t1 : decide (262144 < (qt.size : Int)) = true := by simpa using k1
      go_wp2
      go_ret
      exact ⟨rfl, hB⟩
    · have t1 : decide (262144 < (qt.size : Int)) = false := by simpa using k1
      by_cases k2 : 262144 < (qa.size : Int)
      · have t2 : decide (262144 < (qa.size : Int)) = true := by simpa using k2
        go_wp2
        go_ret
        exact ⟨rfl, hB⟩
      · have t2 : decide (262144 < (qa.size : Int)) = false := by simpa using k2
        by_cases k3 : 262144 < (qf.size : Int)
        · have t3 : decide (262144 < (qf.size : Int)) = true := by simpa using k3
          go_wp2
          go_ret
          exact ⟨rfl, hB⟩
        · have t3 : decide (262144 < (qf.size : Int)) = false := by simpa using k3
          have k4 : 262144 < (qg.size : Int) := by have := HH.out; omega
          have t4 : decide (262144 < (qg.size : Int)) = true := by simpa using k4
          go_wp2
          go_ret
          exact ⟨rfl, hB⟩

set_option maxRecDepth 100000 in
set_option maxHeartbeats 1000000 in
theorem law5_ff (qt qa qf qg : ByteArray) (ql qc qm qn : Int) (w : World) (t1 : decide (262144 < (qt.size : Int)) = false) (t2 : decide (262144 < (qa.size : Int)) = false) (t3 : decide (262144 < (qf.size : Int)) = false) (t4 : decide (262144 < (qg.size : Int)) = false) (h1 : qt.toList.isEmpty = false) (h2 : qa.toList.isEmpty = false) :
    Calls Trym.prog 5 #[.agg #[.string qt, .string qa, .string qf, .int .i64 ql, .int .i64 qc, .string qg, .int .i64 qm, .int .i64 qn]] w fun e w' => e = .returned (.bool true) ∧ Below w.heap.size w w' := by
  go_enter Trym.func5, Trym.ntmps5
  go_wp2_with fail
  refine (bytes13 qt qa qf qg ql qc qm qn _).mono ?_
  rintro e w1 ⟨b, rfl, hb⟩
  have hc := fun i => hb.cell (p := ⟨w.heap.size, i, none⟩) (by simp)
  simp [go_sem] at hc
  have hs : w.heap.size < w1.heap.size := by have := hb.size; simp at this; omega
  have hB : Below w.heap.size w w1 := Below.trans ((Below.refl _ _).alloc (Nat.le_refl _) _) (hb.mono (by simp))
  clear hb
  cases b
  · go_wp2
    go_ret
    exact ⟨rfl, hB⟩
  · go_wp2_with fail
    have hR := fun W => run10_ok { data := #[] } { data := #[] } { data := #[] } { data := #[] } qt qa qf qg 0 0 0 0 ql qc qm qn W (.inl emp_nil) (.inl emp_nil)
    simp only [sel_f h1, sel_f h2] at hR
    refine (hR _).mono ?_
    clear hR
    rintro e w2 ⟨rfl, hb2⟩
    have hc2 := fun i => hb2.cell (p := ⟨w.heap.size, i, none⟩) (by simp; omega)
    simp [go_sem, hs, hc] at hc2
    have hs2 : w1.heap.size < w2.heap.size := by have := hb2.size; simp at this; omega
    have hB2 : Below w.heap.size w w2 := hB.trans (Below.trans ((Below.refl _ _).alloc (Nat.le_refl _) _) (hb2.mono (by simp)) |>.mono (by omega))
    have hs3 : w.heap.size < w2.heap.size := by omega
    clear hb2 hc hB
    go_wp2_with fail
    refine (run10_tag qt qa qf qg qt qa qf qg ql qc qm qn ql qc qm qn _ h1 h1).mono ?_
    rintro e w3 ⟨E, rfl, he, hE0, hE, hb3⟩
    have hc3 := fun i => hb3.cell (p := ⟨w.heap.size, i, none⟩) (by simp; omega)
    have hd3 := fun i => hb3.cell (p := ⟨w2.heap.size + 1, i, none⟩) (by simp)
    simp [go_sem, hs3, hc2] at hc3 hd3
    have hz3 : w2.heap.size + 1 < w3.heap.size := by have := hb3.size; simp at this; omega
    have hz4 : w.heap.size < w3.heap.size := by omega
    have hB3 : Below w.heap.size w w3 := hB2.trans (Below.trans (((Below.refl _ _).alloc (Nat.le_refl _) _).alloc (by simp) _) (hb3.mono (by simp; omega)) |>.mono (by omega))
    clear hb3 hc2 hB2 hE0
    go_wp2_with fail
    refine (fault11 E qf ql qc _ ?_).mono ?_
    · obtain ⟨i0, i1, i2⟩ := he
      exact ⟨by simp [go_sem, hE, i0, Nat.lt_succ_of_lt hE], by simp [go_sem, hE, i1, Nat.lt_succ_of_lt hE], by simp [go_sem, hE, i2, Nat.lt_succ_of_lt hE]⟩
    rintro e w4 ⟨rfl, hb4⟩
    have hd4 := fun i => hb4.cell (p := ⟨w2.heap.size + 1, i, none⟩) (by simp; omega)
    have he4 := fun i => hb4.cell (p := ⟨w3.heap.size, i, none⟩) (by simp; omega)
    have hz5 : w2.heap.size + 1 < w3.heap.size + 1 := by omega
    simp [go_sem, hz3, hz5, hd3] at hd4 he4
    have hB4 : Below w.heap.size w w4 := hB3.trans (Below.trans (((Below.refl _ _).alloc (Nat.le_refl _) _).alloc (by simp) _) (hb4.mono (by simp; omega)) |>.mono (by omega))
    clear hb4 hc3 hd3 hB3 he
    go_wp2
    go_ret
    exact ⟨rfl, hB4⟩

set_option maxRecDepth 100000 in
set_option maxHeartbeats 1000000 in
theorem law5_ft (qt qf qg : ByteArray) (ql qc qm qn : Int) (w : World) (t1 : decide (262144 < (qt.size : Int)) = false) (t3 : decide (262144 < (qf.size : Int)) = false) (t4 : decide (262144 < (qg.size : Int)) = false) (h1 : qt.toList.isEmpty = false) :
    Calls Trym.prog 5 #[.agg #[.string qt, .string { data := #[] }, .string qf, .int .i64 ql, .int .i64 qc, .string qg, .int .i64 qm, .int .i64 qn]] w fun e w' => e = .returned (.bool true) ∧ Below w.heap.size w w' := by
  have h2 := emp_nil
  go_enter Trym.func5, Trym.ntmps5
  go_wp2_with fail
  refine (bytes13 qt { data := #[] } qf qg ql qc qm qn _).mono ?_
  rintro e w1 ⟨b, rfl, hb⟩
  have hc := fun i => hb.cell (p := ⟨w.heap.size, i, none⟩) (by simp)
  simp [go_sem] at hc
  have hs : w.heap.size < w1.heap.size := by have := hb.size; simp at this; omega
  have hB : Below w.heap.size w w1 := Below.trans ((Below.refl _ _).alloc (Nat.le_refl _) _) (hb.mono (by simp))
  clear hb
  cases b
  · go_wp2
    go_ret
    exact ⟨rfl, hB⟩
  · go_wp2_with fail
    have hR := fun W => run10_ok { data := #[] } { data := #[] } { data := #[] } { data := #[] } qt { data := #[] } qf qg 0 0 0 0 ql qc qm qn W (.inl emp_nil) (.inl emp_nil)
    simp only [sel_f h1, sel_t h2] at hR
    refine (hR _).mono ?_
    clear hR
    rintro e w2 ⟨rfl, hb2⟩
    have hc2 := fun i => hb2.cell (p := ⟨w.heap.size, i, none⟩) (by simp; omega)
    simp [go_sem, hs, hc] at hc2
    have hs2 : w1.heap.size < w2.heap.size := by have := hb2.size; simp at this; omega
    have hB2 : Below w.heap.size w w2 := hB.trans (Below.trans ((Below.refl _ _).alloc (Nat.le_refl _) _) (hb2.mono (by simp)) |>.mono (by omega))
    have hs3 : w.heap.size < w2.heap.size := by omega
    clear hb2 hc hB
    go_wp2_with fail
    refine (run10_tag qt { data := #[] } qf { data := #[] } qt { data := #[] } qf qg ql qc 0 0 ql qc qm qn _ h1 h1).mono ?_
    rintro e w3 ⟨E, rfl, he, hE0, hE, hb3⟩
    have hc3 := fun i => hb3.cell (p := ⟨w.heap.size, i, none⟩) (by simp; omega)
    have hd3 := fun i => hb3.cell (p := ⟨w2.heap.size + 1, i, none⟩) (by simp)
    simp [go_sem, hs3, hc2] at hc3 hd3
    have hz3 : w2.heap.size + 1 < w3.heap.size := by have := hb3.size; simp at this; omega
    have hz4 : w.heap.size < w3.heap.size := by omega
    have hB3 : Below w.heap.size w w3 := hB2.trans (Below.trans (((Below.refl _ _).alloc (Nat.le_refl _) _).alloc (by simp) _) (hb3.mono (by simp; omega)) |>.mono (by omega))
    clear hb3 hc2 hB2 hE0
    go_wp2_with fail
    refine (fault11 E qf ql qc _ ?_).mono ?_
    · obtain ⟨i0, i1, i2⟩ := he
      exact ⟨by simp [go_sem, hE, i0, Nat.lt_succ_of_lt hE], by simp [go_sem, hE, i1, Nat.lt_succ_of_lt hE], by simp [go_sem, hE, i2, Nat.lt_succ_of_lt hE]⟩
    rintro e w4 ⟨rfl, hb4⟩
    have hd4 := fun i => hb4.cell (p := ⟨w2.heap.size + 1, i, none⟩) (by simp; omega)
    have he4 := fun i => hb4.cell (p := ⟨w3.heap.size, i, none⟩) (by simp; omega)
    have hz5 : w2.heap.size + 1 < w3.heap.size + 1 := by omega
    simp [go_sem, hz3, hz5, hd3] at hd4 he4
    have hB4 : Below w.heap.size w w4 := hB3.trans (Below.trans (((Below.refl _ _).alloc (Nat.le_refl _) _).alloc (by simp) _) (hb4.mono (by simp; omega)) |>.mono (by omega))
    clear hb4 hc3 hd3 hB3 he
    go_wp2
    go_ret
    exact ⟨rfl, hB4⟩

set_option maxRecDepth 100000 in
set_option maxHeartbeats 1000000 in
theorem law5_tf (qa qf qg : ByteArray) (ql qc qm qn : Int) (w : World) (t2 : decide (262144 < (qa.size : Int)) = false) (t3 : decide (262144 < (qf.size : Int)) = false) (t4 : decide (262144 < (qg.size : Int)) = false) (h2 : qa.toList.isEmpty = false) :
    Calls Trym.prog 5 #[.agg #[.string { data := #[] }, .string qa, .string qf, .int .i64 ql, .int .i64 qc, .string qg, .int .i64 qm, .int .i64 qn]] w fun e w' => e = .returned (.bool true) ∧ Below w.heap.size w w' := by
  have h1 := emp_nil
  go_enter Trym.func5, Trym.ntmps5
  go_wp2_with fail
  refine (bytes13 { data := #[] } qa qf qg ql qc qm qn _).mono ?_
  rintro e w1 ⟨b, rfl, hb⟩
  have hc := fun i => hb.cell (p := ⟨w.heap.size, i, none⟩) (by simp)
  simp [go_sem] at hc
  have hs : w.heap.size < w1.heap.size := by have := hb.size; simp at this; omega
  have hB : Below w.heap.size w w1 := Below.trans ((Below.refl _ _).alloc (Nat.le_refl _) _) (hb.mono (by simp))
  clear hb
  cases b
  · go_wp2
    go_ret
    exact ⟨rfl, hB⟩
  · go_wp2_with fail
    have hR := fun W => run10_ok { data := #[] } { data := #[] } { data := #[] } { data := #[] } { data := #[] } qa qf qg 0 0 0 0 ql qc qm qn W (.inl emp_nil) (.inl emp_nil)
    simp only [sel_t h1, sel_f h2] at hR
    refine (hR _).mono ?_
    clear hR
    rintro e w2 ⟨rfl, hb2⟩
    have hc2 := fun i => hb2.cell (p := ⟨w.heap.size, i, none⟩) (by simp; omega)
    simp [go_sem, hs, hc] at hc2
    have hs2 : w1.heap.size < w2.heap.size := by have := hb2.size; simp at this; omega
    have hB2 : Below w.heap.size w w2 := hB.trans (Below.trans ((Below.refl _ _).alloc (Nat.le_refl _) _) (hb2.mono (by simp)) |>.mono (by omega))
    have hs3 : w.heap.size < w2.heap.size := by omega
    clear hb2 hc hB
    go_wp2_with fail
    refine (run10_anchor { data := #[] } qa { data := #[] } qg { data := #[] } qa qf qg 0 0 qm qn ql qc qm qn _ (.inl emp_nil) h2 h2).mono ?_
    rintro e w3 ⟨E, rfl, he, hE0, hE, hb3⟩
    have hc3 := fun i => hb3.cell (p := ⟨w.heap.size, i, none⟩) (by simp; omega)
    have hd3 := fun i => hb3.cell (p := ⟨w2.heap.size + 1, i, none⟩) (by simp)
    simp [go_sem, hs3, hc2] at hc3 hd3
    have hz3 : w2.heap.size + 1 < w3.heap.size := by have := hb3.size; simp at this; omega
    have hz4 : w.heap.size < w3.heap.size := by omega
    have hB3 : Below w.heap.size w w3 := hB2.trans (Below.trans (((Below.refl _ _).alloc (Nat.le_refl _) _).alloc (by simp) _) (hb3.mono (by simp; omega)) |>.mono (by omega))
    clear hb3 hc2 hB2 hE0
    go_wp2_with fail
    refine (fault11 E qg qm qn _ ?_).mono ?_
    · obtain ⟨i0, i1, i2⟩ := he
      exact ⟨by simp [go_sem, hE, i0, Nat.lt_succ_of_lt hE], by simp [go_sem, hE, i1, Nat.lt_succ_of_lt hE], by simp [go_sem, hE, i2, Nat.lt_succ_of_lt hE]⟩
    rintro e w4 ⟨rfl, hb4⟩
    have hd4 := fun i => hb4.cell (p := ⟨w2.heap.size + 1, i, none⟩) (by simp; omega)
    have he4 := fun i => hb4.cell (p := ⟨w3.heap.size, i, none⟩) (by simp; omega)
    have hz5 : w2.heap.size + 1 < w3.heap.size + 1 := by omega
    simp [go_sem, hz3, hz5, hd3] at hd4 he4
    have hB4 : Below w.heap.size w w4 := hB3.trans (Below.trans (((Below.refl _ _).alloc (Nat.le_refl _) _).alloc (by simp) _) (hb4.mono (by simp; omega)) |>.mono (by omega))
    clear hb4 hc3 hd3 hB3 he
    go_wp2
    go_ret
    exact ⟨rfl, hB4⟩

set_option maxRecDepth 100000 in
set_option maxHeartbeats 1000000 in
theorem law5_tt (qf qg : ByteArray) (ql qc qm qn : Int) (w : World) (t3 : decide (262144 < (qf.size : Int)) = false) (t4 : decide (262144 < (qg.size : Int)) = false) :
    Calls Trym.prog 5 #[.agg #[.string { data := #[] }, .string { data := #[] }, .string qf, .int .i64 ql, .int .i64 qc, .string qg, .int .i64 qm, .int .i64 qn]] w fun e w' => e = .returned (.bool true) ∧ Below w.heap.size w w' := by
  have h1 := emp_nil
  go_enter Trym.func5, Trym.ntmps5
  go_wp2_with fail
  refine (bytes13 { data := #[] } { data := #[] } qf qg ql qc qm qn _).mono ?_
  rintro e w1 ⟨b, rfl, hb⟩
  have hc := fun i => hb.cell (p := ⟨w.heap.size, i, none⟩) (by simp)
  simp [go_sem] at hc
  have hs : w.heap.size < w1.heap.size := by have := hb.size; simp at this; omega
  have hB : Below w.heap.size w w1 := Below.trans ((Below.refl _ _).alloc (Nat.le_refl _) _) (hb.mono (by simp))
  clear hb
  cases b
  · go_wp2
    go_ret
    exact ⟨rfl, hB⟩
  · go_wp2_with fail
    have hR := fun W => run10_ok { data := #[] } { data := #[] } { data := #[] } { data := #[] } { data := #[] } { data := #[] } qf qg 0 0 0 0 ql qc qm qn W (.inl emp_nil) (.inl emp_nil)
    simp only [sel_t h1] at hR
    refine (hR _).mono ?_
    clear hR
    rintro e w2 ⟨rfl, hb2⟩
    have hc2 := fun i => hb2.cell (p := ⟨w.heap.size, i, none⟩) (by simp; omega)
    simp [go_sem, hs, hc] at hc2
    have hs2 : w1.heap.size < w2.heap.size := by have := hb2.size; simp at this; omega
    have hB2 : Below w.heap.size w w2 := hB.trans (Below.trans ((Below.refl _ _).alloc (Nat.le_refl _) _) (hb2.mono (by simp)) |>.mono (by omega))
    have hs3 : w.heap.size < w2.heap.size := by omega
    clear hb2 hc hB
    go_wp2_with fail
    have hR := fun W => run10_ok { data := #[] } { data := #[] } { data := #[] } { data := #[] } { data := #[] } { data := #[] } qf qg 0 0 0 0 ql qc qm qn W (.inl emp_nil) (.inl emp_nil)
    simp only [sel_t h1] at hR
    refine (hR _).mono ?_
    clear hR
    rintro e w3 ⟨rfl, hb3⟩
    have hc3 := fun i => hb3.cell (p := ⟨w.heap.size, i, none⟩) (by simp; omega)
    have hd3 := fun i => hb3.cell (p := ⟨w2.heap.size + 1, i, none⟩) (by simp)
    simp [go_sem, hs3, hc2] at hc3 hd3
    have hz3 : w2.heap.size + 1 < w3.heap.size := by have := hb3.size; simp at this; omega
    have hz4 : w.heap.size < w3.heap.size := by omega
    have hB3 : Below w.heap.size w w3 := hB2.trans (Below.trans (((Below.refl _ _).alloc (Nat.le_refl _) _).alloc (by simp) _) (hb3.mono (by simp; omega)) |>.mono (by omega))
    clear hb3 hc2 hB2
    go_wp2
    go_ret
    exact ⟨rfl, hB3.alloc (by omega) _⟩


theorem dec_false {p : Prop} [Decidable p] (h : ¬ p) : decide p = false := by simpa using h

theorem law5 (qt qa qf qg : ByteArray) (ql qc qm qn : Int) (w : World) :
    Calls Trym.prog 5 #[.agg #[.string qt, .string qa, .string qf, .int .i64 ql, .int .i64 qc, .string qg, .int .i64 qm, .int .i64 qn]] w fun e w' => e = .returned (.bool true) ∧ Below w.heap.size w w' := by
  by_cases h : 262144 < (qt.size : Int) ∨ 262144 < (qa.size : Int) ∨ 262144 < (qf.size : Int) ∨ 262144 < (qg.size : Int)
  · exact law5_big qt qa qf qg ql qc qm qn w h
  · have t1 : decide (262144 < (qt.size : Int)) = false := dec_false fun k => h (.inl k)
    have t2 : decide (262144 < (qa.size : Int)) = false := dec_false fun k => h (.inr (.inl k))
    have t3 : decide (262144 < (qf.size : Int)) = false := dec_false fun k => h (.inr (.inr (.inl k)))
    have t4 : decide (262144 < (qg.size : Int)) = false := dec_false fun k => h (.inr (.inr (.inr k)))
    cases h1 : qt.toList.isEmpty with
    | true =>
      cases h2 : qa.toList.isEmpty with
      | true =>
        have e1 := emp h1
        have e2 := emp h2
        subst e1
        subst e2
        exact law5_tt qf qg ql qc qm qn w t3 t4
      | false =>
        have e1 := emp h1
        subst e1
        exact law5_tf qa qf qg ql qc qm qn w t2 t3 t4 h2
    | false =>
      cases h2 : qa.toList.isEmpty with
      | true =>
        have e2 := emp h2
        subst e2
        exact law5_ft qt qf qg ql qc qm qn w t1 t3 t4 h1
      | false => exact law5_ff qt qa qf qg ql qc qm qn w t1 t2 t3 t4 h1 h2
end Go.Proofs.Qxb6612688aMods.Join
