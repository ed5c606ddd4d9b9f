import Derived.Test.Qxb6609426aModsWalksC
import Derived.WalkKit
import Derived.Below
import Derived.RegionTactic
import Derived.Deep.QuietTactic
import Derived.BigQuiet
import Derived.WalkSpells
import Derived.WalkLawsBesides
import Derived.Deep.OwnRows
import Derived.Laws.CopyOwn
namespace Go.Proofs.Qxb6609426aMods.Lines
open Go.RowKit
set_option linter.unusedVariables false

theorem answer_mid (f : Nat → Int) (run : Int) (len i : Nat) (r q : Int) (h : Answer f run len r q) (hi : i < len) (hu : Upto f run i) (h1 : ((i + 1 : Nat) : Int) - st f run (i + 1) = 65536) : r = max (st f run (i + 1)) 0 ∧ q = run := by
  rcases h with ⟨k, hk, ⟨hk1, hk2⟩, hr, hq⟩ | ⟨hu2, hr, hq⟩
  · have e : k = i + 1 := by
      by_cases h2 : k ≤ i
      · have := hu k h2; omega
      · by_cases h3 : i + 1 < k
        · have := hk2 (i + 1) h3; omega
        · omega
    subst e; exact ⟨hr, hq⟩
  · have := hu2 (i + 1) (by omega); omega

theorem answer_end (f : Nat → Int) (run : Int) (len : Nat) (r q : Int) (h : Answer f run len r q) (hu : Upto f run len) : r = (len : Int) ∧ q = (len : Int) - st f run len := by
  rcases h with ⟨k, hk, ⟨hk1, hk2⟩, hr, hq⟩ | ⟨hu2, hr, hq⟩
  · have := hu k hk; omega
  · exact ⟨hr, hq⟩

theorem info5 : (Trym.prog.info? 5).map (fun i => (i.zero, i.size, i.bytes)) = some (some (.int .u8 0), 1, 1) := by kernel_rfl
theorem size5 : (Trym.prog.info? 5).map (·.size) = some 1 := by kernel_rfl

set_option maxHeartbeats 400000 in
theorem law5_long (run : Int) (a : Option Addr) (len cap : Nat) (w : World) (hm : len ≤ maxLen) (hl : 1048576 < len) :
    Calls Trym.prog 5 #[.int .i64 run, .slice a len cap] w fun e w' => e = .returned (.bool true) ∧ Below w.heap.size w w' := by
  unfold maxLen at hm
  go_enter Trym.func5, Trym.ntmps5
  go_wp2
  go_ret
  exact ⟨rfl, Below.refl _ _⟩

set_option maxHeartbeats 400000 in
theorem law5_out (run : Int) (a : Option Addr) (len cap : Nat) (w : World) (hl : len ≤ 1048576) (hr : run < 0 ∨ 65536 ≤ run) :
    Calls Trym.prog 5 #[.int .i64 run, .slice a len cap] w fun e w' => e = .returned (.bool true) ∧ Below w.heap.size w w' := by
  rcases hr with hr | hr
  · have h0 : decide (run < 0) = true := by simpa using hr
    go_enter Trym.func5, Trym.ntmps5
    go_wp2
    go_ret
    exact ⟨rfl, Below.refl _ _⟩
  · have h1 : ¬ run < 0 := by omega
    have h0 : decide (run < 0) = false := by simpa using h1
    go_enter Trym.func5, Trym.ntmps5
    go_wp2
    go_ret
    exact ⟨rfl, Below.refl _ _⟩

theorem copied (w : World) (x : Addr) (len cap : Nat) (f : Nat → Int) (hc : ∀ i, i < len → w.cell? (x.add i) = some (.int .u8 (f i))) :
    ∃ w2, (Builtin.copy_ #[22, 22] 3 #[.slice (some ⟨w.heap.size, 0, none⟩) len len, .slice (some x) len cap]).run Trym.prog (w.alloc (.cells (madeCells #[.int .u8 0] len) 5)) = .ok (goInt len) w2 ∧
      Below w.heap.size w w2 ∧ w.heap.size < w2.heap.size ∧ ∀ i, i < len → w2.cell? ⟨w.heap.size, i, none⟩ = some (.int .u8 (f i)) := by
  have hb : Below w.heap.size w (w.alloc (.cells (madeCells #[.int .u8 0] len) 5)) := (Below.refl _ _).alloc (Nat.le_refl _) _
  have hg : (w.alloc (.cells (madeCells #[.int .u8 0] len) 5)).heap[w.heap.size]? = some (.cells (madeCells #[.int .u8 0] len) 5 (0, 0)) := heap_alloc_new w _
  have hcs : ((List.range len).map (fun i => Value.int .u8 (f i))).length = len := by simp
  have hrun := run_copy_row (P := Trym.prog) (w.alloc (.cells (madeCells #[.int .u8 0] len) 5)) 22 22 3 5 w.heap.size 0 len len x len cap (madeCells #[.int .u8 0] len) 5 ((List.range len).map (fun i => Value.int .u8 (f i))) Trym.underlying22 size5 hg (by rw [hcs]; exact (Nat.min_self _).symm)
    (by
      intro j v hv
      have hj : j < len := by have := (List.getElem?_eq_some_iff.1 hv).1; simpa using this
      have hlt : (x.add j).block < w.heap.size := by
        have := hc j hj
        by_cases h : (x.add j).block < w.heap.size
        · exact h
        · exfalso; simp [World.cell?, Array.getElem?_eq_none (Nat.not_lt.1 h)] at this
      rw [hb.cell hlt, hc j hj]
      simpa [hj] using hv)
    (by rw [hcs, size_madeCells]; omega) (by intro v hv; obtain ⟨i, _, rfl⟩ := List.mem_map.1 hv; rfl)
  rw [hcs] at hrun
  refine ⟨_, hrun, below_setRow hb (Nat.le_refl _) _, by simp [World.setRow], fun i hi => ?_⟩
  have hh := setRow_heap _ w.heap.size _ (List.take 0 (madeCells #[.int .u8 0] len).toList ++ (List.range len).map (fun i => Value.int .u8 (f i)) ++ List.drop (0 + len) (madeCells #[.int .u8 0] len).toList).toArray _ _ hg
  simp only [World.cell?, hh]
  simp only [List.take_zero, List.nil_append, List.getElem?_toArray]
  rw [List.getElem?_append_left (by rw [hcs]; exact hi)]
  simp [hi]

set_option maxHeartbeats 400000 in
theorem law5_nil (run : Int) (w : World) (hr0 : 0 ≤ run) (hr1 : run < 65536) :
    Calls Trym.prog 5 #[.int .i64 run, .slice none 0 0] w fun e w' => e = .returned (.bool true) ∧ Below w.heap.size w w' := by
  have h0 : decide (run < 0) = false := by simp; omega
  have h1 : decide (65536 ≤ run) = false := by simp; omega
  go_enter Trym.func5, Trym.ntmps5
  go_wp2_with (first | (go_at_call 11; go_in))
  refine (zz12_nil (fun _ => 0) run _ hr0 hr1).mono ?_
  rintro e w' ⟨r, q, rfl, ha, hb⟩
  obtain ⟨rfl, hq⟩ := answer_end _ _ _ _ _ ha (fun j hj => by rw [show j = 0 from Nat.le_zero.1 hj]; simp [st]; omega)
  obtain rfl : q = run := by rw [hq, st_zero]; omega
  clear ha hq
  go_wp2_with fail
  go_loop [8, 9, 10] (fun c l i => c = .int .i64 q ∧ l = .int .i64 0 ∧ i = .int .i64 0) (fun _ _ _ => 0)
  case atStart => exact ⟨rfl, rfl, rfl⟩
  case round =>
    obtain ⟨rfl, rfl, rfl⟩ := hrel
    go_wp2
    go_ret
    exact ⟨rfl, hb⟩

set_option maxHeartbeats 400000 in
theorem law5_row (run : Int) (x : Addr) (len cap : Nat) (f : Nat → Int) (w : World) (hl : len ≤ 1048576) (hr0 : 0 ≤ run) (hr1 : run < 65536) (hc : ∀ i, i < len → w.cell? (x.add i) = some (.int .u8 (f i))) :
    Calls Trym.prog 5 #[.int .i64 run, .slice (some x) len cap] w fun e w' => e = .returned (.bool true) ∧ Below w.heap.size w w' := by
  have h0 : decide (run < 0) = false := by simp; omega
  have h1 : decide (65536 ≤ run) = false := by simp; omega
  have h2 : decide (1048576 < (len : Int)) = false := by simp; omega
  obtain ⟨w2, hcp, hb2, hs2, hc2⟩ := copied w x len cap f hc
  have HC := hid hc2
  clear hc hc2
  have hmk := fun W => run_make_row' (P := Trym.prog) 22 5 (.int .u8 0) 1 Trym.underlying22 info5 rfl .i64 .i64 len (by omega) (by omega) W
  go_enter Trym.func5, Trym.ntmps5
  go_wp2_with (first | (go_at_call 11; go_in))
  refine (zz12 w.heap.size len f run w2 hl hr0 hr1 hs2 HC.out).mono ?_
  rintro e w3 ⟨r, q, rfl, ha, hb⟩
  have HA := hid ha
  have hB := hb2.trans (hb.mono (Nat.le_of_lt hs2))
  have HC3 : Hid (∀ i, i < len → w3.cell? ⟨w.heap.size, i, none⟩ = some (.int .u8 (f i))) := fun i hi => (hb.cell hs2).trans (HC.out i hi)
  clear ha hcp hmk hb hb2 HC hs2
  go_wp2_with fail
  go_loop [8, 9, 10] (fun c l t => ∃ i : Nat, i ≤ len ∧ t = .int .i64 (i : Int) ∧ c = .int .i64 ((i : Int) - st f run i) ∧ l = .int .i64 (max (st f run i) 0) ∧ Hid (Upto f run i)) (fun _ _ t => len - (intOf t).toNat)
  case atStart => exact ⟨0, Nat.zero_le _, rfl, by rw [st_zero]; go_num, by rw [st_zero]; go_num, fun j hj => by rw [show j = 0 from Nat.le_zero.1 hj]; simp [st]; omega⟩
  case round =>
    obtain ⟨i, hi, rfl, rfl, rfl, HU⟩ := hrel
    have hsl := st_le f run hr0 i
    have hsu := HU.out i (Nat.le_refl _)
    by_cases hlt : i < len
    · have hcell := HC3.out i hlt
      by_cases hv : f i = 10
      · have hbv : (f i == 10) = true := by simp [hv]
        have HE := hid (st_nl f run i hv)
        clear hv
        generalize hsg : st f run i = s at *
        have HSG := hid hsg
        clear hsg
        go_wp2
        go_round
        case rel => exact ⟨i + 1, by omega, by go_num, by rw [HE.out]; go_num, by rw [HE.out]; go_num, fun j hj => by
          by_cases e : j = i + 1
          · subst e; rw [HE.out]; omega
          · exact HU.out j (by omega)⟩
        case measure => simp [intOf]; omega
      · have hbv : (f i == 10) = false := by simp [hv]
        have hse := st_no f run i hv
        by_cases h6 : ((i + 1 : Nat) : Int) - st f run (i + 1) = 65536
        · obtain ⟨hr, hq⟩ := answer_mid f run len i r q HA.out hlt HU.out h6
          rw [hse] at hr h6
          have t1 : (r == max (st f run i) 0) = true := by simp [hr]
          have t2 : (q == run) = true := by simp [hq]
          have t3 : ((i : Int) - st f run i + 1 == 65536) = true := by simp; omega
          clear hv hse hr hq HA HU h6
          generalize st f run i = s at *
          generalize max s 0 = m at *
          go_wp2
          go_ret
          exact ⟨rfl, hB⟩
        · have HU' : Hid (Upto f run (i + 1)) := by
            intro j hj
            by_cases e : j = i + 1
            · subst e; omega
            · exact HU.out j (by omega)
          have HE := hid hse
          have t3 : ((i : Int) - st f run i + 1 == 65536) = false := by simp; omega
          clear hv hse h6
          generalize hsg : st f run i = s at *
          have HSG := hid hsg
          clear hsg
          go_wp2
          go_round
          case rel => exact ⟨i + 1, by omega, by go_num, by rw [HE.out]; go_num, by rw [HE.out], HU'⟩
          case measure => simp [intOf]; omega
    · obtain rfl : i = len := by omega
      obtain ⟨hr, hq⟩ := answer_end f run i r q HA.out HU.out
      have t1 : (r == (i : Int)) = true := by simp [hr]
      have t2 : (q == (i : Int) - st f run i) = true := by simp [hq]
      clear hr hq HA HU
      generalize st f run i = s at *
      generalize max s 0 = m at *
      go_wp2
      go_ret
      exact ⟨rfl, hB⟩
end Go.Proofs.Qxb6609426aMods.Lines
