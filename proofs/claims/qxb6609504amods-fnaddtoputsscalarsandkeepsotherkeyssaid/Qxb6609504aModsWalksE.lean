/-
  THE WALKS of zzViewList and zzViewEntry.
-/
import Derived.Test.Qxb6609504aModsWalksD
import Derived.WalkKit
import Derived.Below
import Derived.Deep.QuietTactic
import Derived.BigQuiet
import Derived.WalkSpells
import Derived.WalkLawsBesides
import Derived.Deep.OwnRows
import Derived.Laws.CopyOwn
namespace Go.Proofs.Qxb6609504aMods.Add
open Go.RowKit
set_option linter.unusedVariables false
set_option linter.unusedSimpArgs false

theorem ta2_2 (n : Int) (w : World) : (Instr.typeAssert (.iface 2 (.int .i64 n)) 20 2 true).run Trym.prog w = .ok (.tuple #[.int .i64 n, .bool true]) w := by kernel_rfl
theorem ta9_2 (s : ByteArray) (w : World) : (Instr.typeAssert (.iface 9 (.string s)) 20 2 true).run Trym.prog w = .ok (.tuple #[.int .i64 0, .bool false]) w := by kernel_rfl
theorem ta4_2 (b : Bool) (w : World) : (Instr.typeAssert (.iface 4 (.bool b)) 20 2 true).run Trym.prog w = .ok (.tuple #[.int .i64 0, .bool false]) w := by kernel_rfl
theorem ta22_2 (a : Option Addr) (m c : Nat) (w : World) : (Instr.typeAssert (.iface 22 (.slice a m c)) 20 2 true).run Trym.prog w = .ok (.tuple #[.int .i64 0, .bool false]) w := by kernel_rfl
theorem ta73_2 (a : Option Addr) (m c : Nat) (w : World) : (Instr.typeAssert (.iface 73 (.slice a m c)) 20 2 true).run Trym.prog w = .ok (.tuple #[.int .i64 0, .bool false]) w := by kernel_rfl
theorem ta9_9 (s : ByteArray) (w : World) : (Instr.typeAssert (.iface 9 (.string s)) 20 9 true).run Trym.prog w = .ok (.tuple #[.string s, .bool true]) w := by kernel_rfl
theorem ta4_9 (b : Bool) (w : World) : (Instr.typeAssert (.iface 4 (.bool b)) 20 9 true).run Trym.prog w = .ok (.tuple #[.string nilS, .bool false]) w := by kernel_rfl
theorem ta22_9 (a : Option Addr) (m c : Nat) (w : World) : (Instr.typeAssert (.iface 22 (.slice a m c)) 20 9 true).run Trym.prog w = .ok (.tuple #[.string nilS, .bool false]) w := by kernel_rfl
theorem ta73_9 (a : Option Addr) (m c : Nat) (w : World) : (Instr.typeAssert (.iface 73 (.slice a m c)) 20 9 true).run Trym.prog w = .ok (.tuple #[.string nilS, .bool false]) w := by kernel_rfl
theorem ta4_4 (b : Bool) (w : World) : (Instr.typeAssert (.iface 4 (.bool b)) 20 4 true).run Trym.prog w = .ok (.tuple #[.bool b, .bool true]) w := by kernel_rfl
theorem ta22_4 (a : Option Addr) (m c : Nat) (w : World) : (Instr.typeAssert (.iface 22 (.slice a m c)) 20 4 true).run Trym.prog w = .ok (.tuple #[.bool false, .bool false]) w := by kernel_rfl
theorem ta73_4 (a : Option Addr) (m c : Nat) (w : World) : (Instr.typeAssert (.iface 73 (.slice a m c)) 20 4 true).run Trym.prog w = .ok (.tuple #[.bool false, .bool false]) w := by kernel_rfl
theorem ta73_22 (a : Option Addr) (m c : Nat) (w : World) : (Instr.typeAssert (.iface 73 (.slice a m c)) 20 22 true).run Trym.prog w = .ok (.tuple #[.slice none 0 0, .bool false]) w := by kernel_rfl
theorem ta73_73 (a : Option Addr) (m c : Nat) (w : World) : (Instr.typeAssert (.iface 73 (.slice a m c)) 20 73 true).run Trym.prog w = .ok (.tuple #[.slice a m c, .bool true]) w := by kernel_rfl

theorem eq_nil73 (a : Addr) (m c : Nat) (w : World) : (binOp .eql 73 (.slice (some a) m c) (.slice none 0 0)).run Trym.prog w = .ok (.bool false) w := by kernel_rfl

set_option maxHeartbeats 400000 in
theorem view26 (g m : Nat) (l : Nat → ByteArray) (w : World) (hm : m ≤ 1048576) (hc : ∀ i, i < m → w.cell? ⟨g, i, none⟩ = some (.iface 9 (.string (l i)))) :
    Calls Trym.prog 26 #[.iface 73 (.slice (some ⟨g, 0, none⟩) m m)] w fun e w' => e = .returned (.tuple #[.bool true, .bool false, .slice (some ⟨w.heap.size, 0, none⟩) m m, .bool true]) ∧ w'.rowIs w.heap.size 9 m (fun j => .string (l j)) ∧ Below w.heap.size w w' := by
  have HC := hid hc
  clear hc
  have ht := ta73_73
  have ht9 := ta9_9
  have hen := eq_nil73
  have hmk := fun W => run_make_row' (P := Trym.prog) 22 9 (.string nilS) 16 Trym.underlying22 info9 rfl .i64 .i64 m (by omega) (by omega) W
  go_enter Trym.func26, Trym.ntmps26
  go_wp2_with fail
  go_loopw [9, 10] (fun x i wr => ∃ k : Nat, k ≤ m ∧ i = .int .i64 (k : Int) ∧ x = .bool true ∧ Hid (wr.rowIs w.heap.size 9 m (fun j => if j < k then .string (l j) else .string nilS)) ∧ Below w.heap.size w wr) (fun _ i _ => m - (intOf i).toNat)
  case atStart => exact ⟨0, Nat.zero_le _, rfl, rfl, hid ((World.rowIs_made w (.string nilS) m 9).congr (fun i hi => by simp)), (Below.refl _ _).alloc (Nat.le_refl _) _⟩
  case round =>
    obtain ⟨k, hk, rfl, rfl, HR, hB⟩ := hrel
    by_cases hlt : k < m
    · have h0 := HC.out k hlt
      have hcell := (hB.cell (p := ⟨g, k, none⟩) (lt_of_cell h0)).trans h0
      have hold := HR.out.cell hlt
      have hfz := HR.out.frozen k
      rw [if_neg (Nat.lt_irrefl k)] at hold
      clear h0
      go_wp2
      go_roundw
      case rel => exact ⟨k + 1, by omega, by go_num, rfl, hid ((HR.out.set k _).congr (fun i hi => by
        by_cases e : i = k
        · subst e; simp
        · rw [if_neg e]
          by_cases h1 : i < k
          · rw [if_pos h1, if_pos (by omega)]
          · rw [if_neg h1, if_neg (by omega)])), hB.setCell (Nat.le_refl _) _⟩
      case measure => simp [intOf]; omega
    · obtain rfl : k = m := by omega
      go_wp2
      exact bodyPost_ret (v := .tuple #[.bool true, .bool false, .slice (some ⟨w.heap.size, 0, none⟩) k k, .bool true]) (by simp [results, Trym.results26, go_sem]) rfl ⟨rfl, HR.out.congr (fun i hi => by rw [if_pos hi]), hB⟩

/-- 'v' is nil or a slice of 'n' strings of the call's own, in a block from 'B' on. -/
def OwnStrs (B : Nat) (w : World) (v : Value) (n : Nat) (f : Nat → ByteArray) : Prop :=
  ∃ a b, v = .slice a n n ∧ B ≤ b ∧ (0 < n → a = some ⟨b, 0, none⟩) ∧ ∀ i, i < n → w.cell? ⟨b, i, none⟩ = some (.string (f i))
theorem OwnStrs.strs {B : Nat} {w : World} {v : Value} {n : Nat} {f : Nat → ByteArray} (h : OwnStrs B w v n f) : IsStrs w v n f := by
  obtain ⟨a, b, hv, _, ha, hc⟩ := h
  exact ⟨a, n, b, 0, hv, ha, fun i hi => by rw [Nat.zero_add]; exact hc i hi⟩
theorem OwnStrs.kept {B : Nat} {w w' : World} {v : Value} {n : Nat} {f : Nat → ByteArray} (h : OwnStrs B w v n f) (hk : ∀ b i u, B ≤ b → w.cell? ⟨b, i, none⟩ = some u → w'.cell? ⟨b, i, none⟩ = some u) : OwnStrs B w' v n f := by
  obtain ⟨a, b, hv, hB, ha, hc⟩ := h
  exact ⟨a, b, hv, hB, ha, fun i hi => hk _ _ _ hB (hc i hi)⟩
theorem OwnStrs.le {B B' : Nat} {w : World} {v : Value} {n : Nat} {f : Nat → ByteArray} (h : OwnStrs B w v n f) (hB : B' ≤ B) : OwnStrs B' w v n f := by
  obtain ⟨a, b, hv, hb, ha, hc⟩ := h
  exact ⟨a, b, hv, Nat.le_trans hB hb, ha, hc⟩
theorem strs_own {w : World} {g n : Nat} {f : Nat → ByteArray} (h : w.rowIs g 9 n (fun j => .string (f j))) : OwnStrs g w (.slice (some ⟨g, 0, none⟩) n n) n f :=
  ⟨_, g, rfl, Nat.le_refl _, fun _ => rfl, fun i hi => h.cell hi⟩
theorem strs_nil (B : Nat) (w : World) : OwnStrs B w (.slice none 0 0) 0 (fun _ => nilS) := ⟨none, B, rfl, Nat.le_refl _, fun h => by omega, fun i hi => by omega⟩

theorem size9 : (Trym.prog.info? 9).map (·.size) = some 1 := by kernel_rfl

/-- 'out := make([]string, n); copy(out, x)'. -/
theorem copied (w : World) (v : Value) (n : Nat) (f : Nat → ByteArray) (h : IsStrs w v n f) :
    ∃ w2, (Builtin.copy_ #[22, 22] 3 #[.slice (some ⟨w.heap.size, 0, none⟩) n n, v]).run Trym.prog (w.alloc (.cells (madeCells #[.string nilS] n) 9)) = .ok (goInt n) w2 ∧
      Below w.heap.size w w2 ∧ w2.rowIs w.heap.size 9 n (fun j => .string (f j)) := by
  obtain ⟨a, c, b, o, rfl, ha, hc⟩ := h
  have hb : Below w.heap.size w (w.alloc (.cells (madeCells #[.string nilS] n) 9)) := (Below.refl _ _).alloc (Nat.le_refl _) _
  by_cases h0 : n = 0
  · subst h0
    refine ⟨_, run_copy_none (P := Trym.prog) _ 22 22 3 9 _ a 0 0 0 c Trym.underlying22 size9 rfl, hb, (World.rowIs_made w (.string nilS) 0 9).congr (fun i hi => by omega)⟩
  · obtain rfl := ha (by omega)
    have hg : (w.alloc (.cells (madeCells #[.string nilS] n) 9)).heap[w.heap.size]? = some (.cells (madeCells #[.string nilS] n) 9 (0, 0)) := heap_alloc_new w _
    have hcs : ((List.range n).map (fun i => Value.string (f i))).length = n := by simp
    have hrun := run_copy_row (P := Trym.prog) (w.alloc (.cells (madeCells #[.string nilS] n) 9)) 22 22 3 9 w.heap.size 0 n n ⟨b, o, none⟩ n c (madeCells #[.string nilS] n) 9 ((List.range n).map (fun i => Value.string (f i))) Trym.underlying22 size9 hg (by rw [hcs]; exact (Nat.min_self _).symm)
      (by
        intro j v hv
        have hj : j < n := by have := (List.getElem?_eq_some_iff.1 hv).1; simpa using this
        rw [Addr.add_lit, hb.cell (p := ⟨b, o + j, none⟩) (lt_of_cell (hc j hj)), hc j hj]
        simpa [hj] using hv)
      (by rw [hcs, size_madeCells]; omega) (by intro v hv; obtain ⟨i, _, rfl⟩ := List.mem_map.1 hv; rfl)
    rw [hcs] at hrun
    refine ⟨_, hrun, below_setRow hb (Nat.le_refl _) _, _, setRow_heap _ w.heap.size _ _ _ _ hg, by simp [size_madeCells], fun i hi => ?_⟩
    simp only [List.take_zero, List.nil_append, List.getElem?_toArray]
    rw [List.getElem?_append_left (by rw [hcs]; exact hi)]
    simp [hi]

set_option maxHeartbeats 1000000 in
theorem view30 (v : Value) (x : AV) (w : World) (h : Rep w v x) :
    Calls Trym.prog 30 #[v, .bool true] w fun e w' => ∃ lv, e = .returned (.tuple #[.int .i64 x.kind, .string x.s, .int .i64 x.n, .bool x.b, lv]) ∧ OwnStrs w.heap.size w' lv x.m x.l ∧ Below w.heap.size w w' := by
  rcases h with (⟨n, rfl, rfl⟩ | ⟨s, rfl, rfl⟩ | ⟨b, rfl, rfl⟩) | ⟨g, m, l, rfl, rfl, hm, hc⟩ | ⟨m, l, ⟨u, rfl, hm, hs⟩, rfl⟩
  · have h2_2 := ta2_2
    go_enter Trym.func30, Trym.ntmps30
    go_wp2
    exact bodyPost_ret (v := .tuple #[.int .i64 1, .string nilS, .int .i64 n, .bool false, .slice none 0 0]) (by simp [results, Trym.results30, go_sem]) rfl ⟨_, rfl, strs_nil _ _, Below.refl _ _⟩
  · have h9_2 := ta9_2
    have h9_9 := ta9_9
    go_enter Trym.func30, Trym.ntmps30
    go_wp2
    exact bodyPost_ret (v := .tuple #[.int .i64 3, .string s, .int .i64 0, .bool false, .slice none 0 0]) (by simp [results, Trym.results30, go_sem]) rfl ⟨_, rfl, strs_nil _ _, Below.refl _ _⟩
  · have h4_2 := ta4_2
    have h4_9 := ta4_9
    have h4_4 := ta4_4
    go_enter Trym.func30, Trym.ntmps30
    go_wp2
    exact bodyPost_ret (v := .tuple #[.int .i64 4, .string nilS, .int .i64 0, .bool b, .slice none 0 0]) (by simp [results, Trym.results30, go_sem]) rfl ⟨_, rfl, strs_nil _ _, Below.refl _ _⟩
  · have h1 := ta73_2
    have h2 := ta73_9
    have h3 := ta73_4
    have h4 := ta73_22
    have h5 := ta73_73
    have HC := hid hc
    clear hc
    go_enter Trym.func30, Trym.ntmps30
    go_wp2_with (go_at_call 26; refine (view26 g m l _ hm HC.out).mono ?_; rintro e w' ⟨rfl, hr, hb⟩)
    exact bodyPost_ret (v := .tuple #[.int .i64 2, .string nilS, .int .i64 0, .bool false, .slice (some ⟨w.heap.size, 0, none⟩) m m]) (by simp [results, Trym.results30, go_sem]) rfl ⟨_, rfl, strs_own hr, hb⟩
  · have h1 := ta22_2
    have h2 := ta22_9
    have h3 := ta22_4
    have h4 := ta22_22
    have hmk := fun W => run_make_row' (P := Trym.prog) 22 9 (.string nilS) 16 Trym.underlying22 info9 rfl .i64 .i64 m (by omega) (by omega) W
    obtain ⟨w2, hcp, hb2, hr2⟩ := copied w u m l hs
    have HR := hid hr2
    clear hr2
    obtain ⟨a, c, b, o, rfl, ha, hc⟩ := hs
    clear ha hc
    go_enter Trym.func30, Trym.ntmps30
    go_wp2
    exact bodyPost_ret (v := .tuple #[.int .i64 6, .string nilS, .int .i64 0, .bool false, .slice (some ⟨w.heap.size, 0, none⟩) m m]) (by simp [results, Trym.results30, go_sem]) rfl ⟨_, rfl, strs_own HR.out, hb2⟩
end Go.Proofs.Qxb6609504aMods.Add
