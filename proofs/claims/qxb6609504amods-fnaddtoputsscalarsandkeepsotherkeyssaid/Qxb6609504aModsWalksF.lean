/-
  THE WALK of zzViewTable.
-/
import Derived.Test.Qxb6609504aModsWalksE
import Derived.WalkKit
import Derived.Below
import Derived.Deep.QuietTactic
import Derived.BigQuiet
import Derived.WalkSpells
import Derived.WalkLawsBesides
import Derived.Deep.OwnRows
namespace Go.Proofs.Qxb6609504aMods.Add
open Go.RowKit
set_option linter.unusedVariables false
set_option linter.unusedSimpArgs false

theorem info3 : (Trym.prog.info? 3).map (fun i => (i.zero, i.size, i.bytes)) = some (some (.int .i64 0), 1, 8) := by kernel_rfl
theorem info2 : (Trym.prog.info? 2).map (fun i => (i.zero, i.size, i.bytes)) = some (some (.int .i64 0), 1, 8) := by kernel_rfl
theorem info4 : (Trym.prog.info? 4).map (fun i => (i.zero, i.size, i.bytes)) = some (some (.bool false), 1, 1) := by kernel_rfl
theorem info22 : (Trym.prog.info? 22).map (fun i => (i.zero, i.size, i.bytes)) = some (some (.slice none 0 0), 1, 24) := by kernel_rfl

/-- One more is filled. -/
theorem row_next {w : World} {b : Nat} {t : TypeId} {n k : Nat} {f : Nat → Value} {z v : Value} (h : w.rowIs b t n (fun j => if j < k then f j else z)) (hv : v = f k) : (w.setCell ⟨b, k, none⟩ v).rowIs b t n (fun j => if j < k + 1 then f j else z) :=
  (h.set k v).congr (fun i hi => by
    by_cases e : i = k
    · subst e; simp [hv]
    · rw [if_neg e]
      by_cases h1 : i < k
      · rw [if_pos h1, if_pos (by omega)]
      · rw [if_neg h1, if_neg (by omega)])
theorem row_start {w : World} {b : Nat} {t : TypeId} {n : Nat} {f : Nat → Value} {z : Value} (h : w.rowIs b t n (fun _ => z)) : w.rowIs b t n (fun j => if j < 0 then f j else z) := h.congr (fun i hi => by simp)
theorem row_full {w : World} {b : Nat} {t : TypeId} {n : Nat} {f : Nat → Value} {z : Value} (h : w.rowIs b t n (fun j => if j < n then f j else z)) : w.rowIs b t n f := h.congr (fun i hi => by rw [if_pos hi])
theorem row_made_at (w : World) (z : Value) (N : Nat) (t : TypeId) (b : Nat) (hb : b = w.heap.size) : (w.alloc (.cells (madeCells #[z] N) t)).rowIs b t N (fun _ => z) := by subst hb; exact World.rowIs_made w z N t
theorem cell_apart {w : World} {b c i j : Nat} (v : Value) (h : c ≠ b) : (w.setCell ⟨b, j, none⟩ v).cell? ⟨c, i, none⟩ = w.cell? ⟨c, i, none⟩ := World.cell?_of_block (w := w) (Below.heap_setCell _ _ _ _ h)
theorem row_below {w w' : World} {b B : Nat} {t : TypeId} {n : Nat} {f : Nat → Value} (h : w.rowIs b t n f) (hb : Below B w w') (hB : b < B) : w'.rowIs b t n f := h.of_block (hb.block b hB)

set_option maxRecDepth 100000 in
set_option maxHeartbeats 1000000 in
theorem view29 (tb : Nat) (L : List (ByteArray × Value)) (av : Value) (N : Nat) (ks : Nat → ByteArray) (V : Nat → Value) (X : Nat → AV) (w : World) (hN : N ≤ 1048576) (hm : IsMap w tb L) (hk : IsStrs w av N ks)
    (hl : ∀ j, j < N → Tab.look L (ks j) = some (V j)) (hr : ∀ j, j < N → Rep w (V j) (X j)) :
    Calls Trym.prog 29 #[.map (some tb), av] w fun e w' => ∃ lv : Nat → Value, e = .returned (.tuple #[.int .i64 (L.length : Nat), .slice (some ⟨w.heap.size, 0, none⟩) N N, .slice (some ⟨w.heap.size + 1, 0, none⟩) N N, .slice (some ⟨w.heap.size + 1 + 1, 0, none⟩) N N, .slice (some ⟨w.heap.size + 1 + 1 + 1, 0, none⟩) N N, .slice (some ⟨w.heap.size + 1 + 1 + 1 + 1, 0, none⟩) N N]) ∧
      w'.rowIs w.heap.size 3 N (fun j => .int .i64 (X j).kind) ∧ w'.rowIs (w.heap.size + 1) 9 N (fun j => .string (X j).s) ∧ w'.rowIs (w.heap.size + 1 + 1) 2 N (fun j => .int .i64 (X j).n) ∧ w'.rowIs (w.heap.size + 1 + 1 + 1) 4 N (fun j => .bool (X j).b) ∧ w'.rowIs (w.heap.size + 1 + 1 + 1 + 1) 22 N lv ∧
      (∀ j, j < N → IsStrs w' (lv j) (X j).m (X j).l) ∧ Below w.heap.size w w' := by
  obtain ⟨a, c, b, o, rfl, ha, hc⟩ := hk
  have HA := hid ha
  have HC := hid hc
  have HL := hid hl
  have HP := hid hr
  have HM := hid hm
  clear ha hc hl hr hm
  have m1 := fun W => run_make_row' (P := Trym.prog) 45 3 (.int .i64 0) 8 Trym.underlying45 info3 rfl .i64 .i64 N (by omega) (by omega) W
  have m2 := fun W => run_make_row' (P := Trym.prog) 22 9 (.string nilS) 16 Trym.underlying22 info9 rfl .i64 .i64 N (by omega) (by omega) W
  have m3 := fun W => run_make_row' (P := Trym.prog) 44 2 (.int .i64 0) 8 Trym.underlying44 info2 rfl .i64 .i64 N (by omega) (by omega) W
  have m4 := fun W => run_make_row' (P := Trym.prog) 58 4 (.bool false) 1 Trym.underlying58 info4 rfl .i64 .i64 N (by omega) (by omega) W
  have m5 := fun W => run_make_row' (P := Trym.prog) 43 22 (.slice none 0 0) 24 Trym.underlying43 info22 rfl .i64 .i64 N (by omega) (by omega) W
  go_enter Trym.func29, Trym.ntmps29
  go_wp2_with fail
  clear m1 m2 m3 m4 m5
  go_loopw [15] (fun i wr => ∃ k : Nat, k ≤ N ∧ i = .int .i64 (k : Int) ∧ Below w.heap.size w wr ∧ ∃ lv : Nat → Value,
      Hid (wr.rowIs w.heap.size 3 N (fun j => if j < k then .int .i64 (X j).kind else .int .i64 0)) ∧ Hid (wr.rowIs (w.heap.size + 1) 9 N (fun j => if j < k then .string (X j).s else .string nilS)) ∧
      Hid (wr.rowIs (w.heap.size + 1 + 1) 2 N (fun j => if j < k then .int .i64 (X j).n else .int .i64 0)) ∧ Hid (wr.rowIs (w.heap.size + 1 + 1 + 1) 4 N (fun j => if j < k then .bool (X j).b else .bool false)) ∧
      Hid (wr.rowIs (w.heap.size + 1 + 1 + 1 + 1) 22 N (fun j => if j < k then lv j else .slice none 0 0)) ∧ Hid (∀ j, j < k → OwnStrs (w.heap.size + 1 + 1 + 1 + 1 + 1) wr (lv j) (X j).m (X j).l)) (fun i _ => N - (intOf i).toNat)
  case atStart =>
    refine ⟨0, Nat.zero_le _, rfl, ?_, fun _ => .nilIface, ?_, ?_, ?_, ?_, ?_, fun j hj => by omega⟩
    · exact (((((Below.refl _ _).alloc (Nat.le_refl _) _).alloc (by simp) _).alloc (by simp; omega) _).alloc (by simp; omega) _).alloc (by simp; omega) _
    · exact hid (row_start (((((World.rowIs_made _ _ _ _).alloc _).alloc _).alloc _).alloc _))
    · exact hid (row_start ((((row_made_at _ _ _ _ _ (by simp)).alloc _).alloc _).alloc _))
    · exact hid (row_start (((row_made_at _ _ _ _ _ (by simp)).alloc _).alloc _))
    · exact hid (row_start ((row_made_at _ _ _ _ _ (by simp)).alloc _))
    · exact hid (row_start (row_made_at _ _ _ _ _ (by simp)))
  case round =>
    obtain ⟨k, hk, rfl, hB, lv, R1, R2, R3, R4, R5, HS⟩ := hrel
    have hMr := HM.out.below hB HM.out.lt
    by_cases hlt : k < N
    · obtain rfl := HA.out (by omega)
      have h0 := HC.out k hlt
      have hcell := (hB.cell (p := ⟨b, o + k, none⟩) (lt_of_cell h0)).trans h0
      have hlk := run_look hMr (HL.out k hlt)
      have hrep := (HP.out k hlt).kept (kept_below hB)
      have z5 := R5.out.lt
      clear h0
      go_wp2_with fail
      refine (view30 (V k) (X k) wr hrep).mono ?_
      rintro e w1 ⟨lw, rfl, hs, hb1⟩
      have hsz := hb1.size
      have q1 := row_below R1.out hb1 R1.out.lt
      have q2 := row_below R2.out hb1 R2.out.lt
      have q3 := row_below R3.out hb1 R3.out.lt
      have q4 := row_below R4.out hb1 R4.out.lt
      have q5 := row_below R5.out hb1 R5.out.lt
      have Q1 := hid q1
      have Q2 := hid q2
      have Q3 := hid q3
      have Q4 := hid q4
      have Q5 := hid q5
      have c1 := q1.cell hlt
      have c2 := q2.cell hlt
      have c3 := q3.cell hlt
      have c4 := q4.cell hlt
      have c5 := q5.cell hlt
      have f1 := q1.frozen k
      have f2 := q2.frozen k
      have f3 := q3.frozen k
      have f4 := q4.frozen k
      have f5 := q5.frozen k
      rw [if_neg (Nat.lt_irrefl k)] at c1 c2 c3 c4 c5
      have hB1 := hB.trans (hb1.mono (Nat.le_trans hB.size (Nat.le_refl _)))
      have HS1 : Hid (∀ j, j < k → OwnStrs (w.heap.size + 1 + 1 + 1 + 1 + 1) w1 (lv j) (X j).m (X j).l) := fun j hj => (HS.out j hj).kept (fun b i u _ hu => kept_below hb1 b i u hu)
      have HS2 : Hid (OwnStrs (w.heap.size + 1 + 1 + 1 + 1 + 1) w1 lw (X k).m (X k).l) := hs.le (by omega)
      obtain ⟨la, lb, hlw, _⟩ := hs
      clear q1 q2 q3 q4 q5 R1 R2 R3 R4 R5 HS hlk hrep hMr
      subst hlw
      go_wp2
      go_roundw
      case rel =>
        refine ⟨k + 1, by omega, by go_num, ?_, fun j => if j = k then .slice la (X k).m (X k).m else lv j, hid ?_, hid ?_, hid ?_, hid ?_, hid ?_, hid ?_⟩
        · exact ((((hB1.setCell (by dsimp only; omega) _).setCell (by dsimp only; omega) _).setCell (by dsimp only; omega) _).setCell (by dsimp only; omega) _).setCell (by dsimp only; omega) _
        · exact ((((row_next Q1.out rfl).setOther (by dsimp only; omega) _).setOther (by dsimp only; omega) _).setOther (by dsimp only; omega) _).setOther (by dsimp only; omega) _
        · exact (((row_next (Q2.out.setOther (by dsimp only; omega) _) rfl).setOther (by dsimp only; omega) _).setOther (by dsimp only; omega) _).setOther (by dsimp only; omega) _
        · exact ((row_next ((Q3.out.setOther (by dsimp only; omega) _).setOther (by dsimp only; omega) _) rfl).setOther (by dsimp only; omega) _).setOther (by dsimp only; omega) _
        · exact (row_next (((Q4.out.setOther (by dsimp only; omega) _).setOther (by dsimp only; omega) _).setOther (by dsimp only; omega) _) rfl).setOther (by dsimp only; omega) _
        · exact row_next (f := fun j => if j = k then .slice la (X k).m (X k).m else lv j) (((((Q5.out.congr (fun j hj => by by_cases h1 : j < k; (rw [if_pos h1, if_pos h1, if_neg (by omega)]); (rw [if_neg h1, if_neg h1]))).setOther (by dsimp only; omega) _).setOther (by dsimp only; omega) _).setOther (by dsimp only; omega) _).setOther (by dsimp only; omega) _) (by simp)
        · intro j hj
          have keep : ∀ b i u, w.heap.size + 1 + 1 + 1 + 1 + 1 ≤ b → w1.cell? ⟨b, i, none⟩ = some u → (((((w1.setCell ⟨w.heap.size, k, none⟩ (.int .i64 (X k).kind)).setCell ⟨w.heap.size + 1, k, none⟩ (.string (X k).s)).setCell ⟨w.heap.size + 1 + 1, k, none⟩ (.int .i64 (X k).n)).setCell ⟨w.heap.size + 1 + 1 + 1, k, none⟩ (.bool (X k).b)).setCell ⟨w.heap.size + 1 + 1 + 1 + 1, k, none⟩ (.slice la (X k).m (X k).m)).cell? ⟨b, i, none⟩ = some u := by
            intro b i u hb hu
            rw [cell_apart _ (by omega), cell_apart _ (by omega), cell_apart _ (by omega), cell_apart _ (by omega), cell_apart _ (by omega)]
            exact hu
          by_cases e : j = k
          · subst e
            dsimp only
            rw [if_pos rfl]
            exact HS2.out.kept keep
          · dsimp only
            rw [if_neg e]
            exact (HS1.out j (by omega)).kept keep
      case measure => simp [intOf]; omega
    · obtain rfl : k = N := by omega
      have hlen := run_len hMr
      go_wp2
      exact bodyPost_ret (v := .tuple #[.int .i64 (L.length : Nat), .slice (some ⟨w.heap.size, 0, none⟩) k k, .slice (some ⟨w.heap.size + 1, 0, none⟩) k k, .slice (some ⟨w.heap.size + 1 + 1, 0, none⟩) k k, .slice (some ⟨w.heap.size + 1 + 1 + 1, 0, none⟩) k k, .slice (some ⟨w.heap.size + 1 + 1 + 1 + 1, 0, none⟩) k k]) (by simp [results, Trym.results29, go_sem]) rfl
        ⟨lv, rfl, row_full R1.out, row_full R2.out, row_full R3.out, row_full R4.out, row_full R5.out, fun j hj => (HS.out j hj).strs, hB⟩
end Go.Proofs.Qxb6609504aMods.Add
