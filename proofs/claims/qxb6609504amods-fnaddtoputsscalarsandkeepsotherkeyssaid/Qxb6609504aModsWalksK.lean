/-
  THE WALK of FnAddToPutsListsOverTable.
-/
import Derived.Test.Qxb6609504aModsWalksJ
import Derived.WalkKit
import Derived.Below
import Derived.Deep.QuietTactic
import Derived.BigQuiet
import Derived.WalkSpells
import Derived.WalkLawsBesides
import Derived.Deep.OwnRows
import Derived.Deep.RegionWith
import Derived.RegionTactic
import Derived.Carry
import Derived.OwnWalk
namespace Go.Proofs.Qxb6609504aMods.Add
open Go.RowKit Go.Deep
set_option linter.unusedVariables false
set_option linter.unusedSimpArgs false


theorem dec_false {p : Prop} [Decidable p] (h : ¬ p) : decide p = false := by simpa using h
theorem dec_true {p : Prop} [Decidable p] (h : p) : decide p = true := by simpa using h

/-- All keys, those of the setting first. -/
def askOf (f pf : Nat → ByteArray) (n j : Nat) : ByteArray := if j < n then f j else pf (j - n)

/-- 'make([]string, 0, n+m)'. -/
theorem make22 (n m : Nat) (hn : n ≤ 4096) (hm : m ≤ 4096) (W : World) : (Instr.makeSlice 22 (.int .i64 0) (.int .i64 ((n : Int) + (m : Int)))).run Trym.prog W = .ok (.slice (some ⟨W.heap.size, 0, none⟩) 0 (n + m)) (W.alloc (.cells (madeCells #[.string nilS] (n + m)) 9)) := by
  obtain ⟨i, hi, hz⟩ := Option.map_eq_some_iff.1 info9
  simp only [Prod.mk.injEq] at hz
  obtain ⟨h1, h2, h3⟩ := hz
  have := run_make (P := Trym.prog) W 22 9 i _ Trym.underlying22 hi h1 .i64 .i64 0 ((n : Int) + (m : Int)) (by omega) (by omega) (by rw [h3]; omega) (by omega)
  have e : ((n : Int) + (m : Int)).toNat = n + m := by omega
  simpa [h2, Value.cells, e] using this

/-- 'ask' has got its first k strings, in a row with room for 'cap'. -/
def AskUpto (w : World) (g cap k : Nat) (ks : Nat → ByteArray) : Prop := w.ownsRow g 9 1 (.slice (some ⟨g, 0, none⟩) k cap) k ((List.range k).map (fun j => .string (ks j)))

theorem ask_start (w : World) (cap : Nat) (ks : Nat → ByteArray) (hc : cap ≤ 1048576) : AskUpto (w.alloc (.cells (madeCells #[.string nilS] cap) 9)) w.heap.size cap 0 ks :=
  ⟨rfl, .inr ⟨w.heap.size, cap, _, rfl, Nat.le_refl _, blk_alloc_new _ _, Nat.zero_le _, by unfold maxLen; omega, by rw [size_madeCells, Nat.mul_one], by simp⟩⟩

theorem ask_lt {w : World} {g cap k : Nat} {ks : Nat → ByteArray} (h : AskUpto w g cap k ks) : g < w.heap.size := by
  rcases h.2 with ⟨h, _⟩ | ⟨g', cap', cur, h, _, hg, _⟩
  · cases h
  · cases h
    exact (Array.getElem?_eq_some_iff.1 hg).1

theorem ask_strs {w : World} {g cap n : Nat} {ks : Nat → ByteArray} (h : AskUpto w g cap n ks) : IsStrs w (.slice (some ⟨g, 0, none⟩) n cap) n ks := by
  rcases h.2 with ⟨h, _⟩ | ⟨g', cap', cur, h, _, hg, hn, _, hs, ht⟩
  · cases h
  · cases h
    refine ⟨_, cap, g, 0, rfl, fun _ => rfl, fun i hi => ?_⟩
    have h1 : (cur.toList.take (n * 1))[i]? = some (.string (ks i)) := by rw [ht]; simp [hi]
    rw [List.getElem?_take, if_pos (by omega)] at h1
    rw [Nat.zero_add]
    simp only [World.cell?, hg]
    simpa using h1

theorem ask_next {w : World} {g cap k : Nat} {ks : Nat → ByteArray} (h : AskUpto w g cap k ks) (s : ByteArray) (hs : ks k = s) (hk : k + 1 ≤ cap) :
    ∃ w', (Builtin.append_ #[22, 22] 22 #[.slice (some ⟨g, 0, none⟩) k cap, .slice (some ⟨w.heap.size, 0, none⟩) 1 1]).run Trym.prog (w.alloc (.cells #[.string s] 9)) = .ok (.slice (some ⟨g, 0, none⟩) (k + 1) cap) w' ∧
      AskUpto w' g cap (k + 1) ks ∧ w.grownBy w' (some g) := by
  obtain ⟨i, hi, hz⟩ := Option.map_eq_some_iff.1 info9
  simp only [Prod.mk.injEq] at hz
  have hb : Below w.heap.size w (w.alloc (.cells #[.string s] 9)) := (Below.refl _ _).alloc (Nat.le_refl _) _
  have hown : (w.alloc (.cells #[.string s] 9)).ownsRow g 9 1 (.slice (some ⟨g, 0, none⟩) k cap) k ((List.range k).map (fun j => .string (ks j))) := by
    refine ⟨h.1, ?_⟩
    rcases h.2 with h | ⟨g', cap', cur, h1, h2, h3, h4⟩
    · exact .inl h
    · exact .inr ⟨g', cap', cur, h1, h2, (hb.block g' (Array.getElem?_eq_some_iff.1 h3).1).trans h3, h4⟩
  obtain ⟨w', hrun, ho, hg⟩ := run_append_fits (P := Trym.prog) (w.alloc (.cells #[.string s] 9)) g 22 22 9 i 1 Trym.underlying22 hi hz.2.1 g k cap _ hown ⟨w.heap.size, 0, none⟩ 1 1 [.string s] rfl
    (by
      intro j u hu
      cases j with
      | zero => simp at hu; subst hu; simp [Addr.add]
      | succ j => simp at hu)
    (by intro u hu; simp at hu; subst hu; rfl) hk
  refine ⟨w', hrun, ?_, ?_⟩
  · show w'.ownsRow _ _ _ _ _ _
    rw [List.range_succ, List.map_append]
    simpa [hs] using ho
  · exact ⟨hg.os.trans hb.os, hg.tape.trans hb.tape, hg.output.trans hb.output, Nat.le_trans hb.size hg.size, fun b hb' hr => (hg.block b (Nat.lt_of_lt_of_le hb' hb.size) hr).trans (hb.block b hb')⟩

/-- An append whose run is known, at the operation. -/
theorem wpList_app {W w' : World} {ops : Array Oper} {rest : List Oper} {o : Oper} {a : Act} {Q : Exit → Act → World → Prop} (hg : o.guard = none) (s x : Operand) (hop : o.op = Op.call { callee := Callee.builtin Builtin.append, args := #[s, x], argTypes := #[22, 22] }) (hty : o.type = 22)
    {u1 u2 v : Value} (hs : a.eval s = u1) (hx : a.eval x = u2) (hrun : (Builtin.append_ #[22, 22] 22 #[u1, u2]).run Trym.prog W = .ok v w') (hK : wpList Trym.prog ops Q rest (a.put o.dst v) w') : wpList Trym.prog ops Q (o :: rest) a W := by
  refine wpList_plain hg fun K hK' => ?_
  unfold Oper.wp
  simp [execOp, hop, resolve, invoke, builtin, hs, hx, hty, hrun, Result.andThen]
  exact hK' _ _ hK

theorem last_eq {f : Nat → ByteArray} {n : Nat} {k : ByteArray} {r : Int} {i : Nat} (h : LastAt f n k r) (hi : i < n) (he : f i = k) (hl : ∀ j, i < j → j < n → f j ≠ k) : r = (i : Int) := by
  rcases h with ⟨_, hno⟩ | ⟨i', hi', rfl, he', hl'⟩
  · exact absurd he (hno i hi)
  · by_cases h1 : i < i'
    · exact absurd he' (hl i' h1 hi')
    · by_cases h2 : i' < i
      · exact absurd he (hl' i h2 hi)
      · omega
theorem last_no {f : Nat → ByteArray} {n : Nat} {k : ByteArray} {r : Int} (h : LastAt f n k r) (hn : ∀ i, i < n → f i ≠ k) : r = -1 := by
  rcases h with ⟨hr, _⟩ | ⟨i', hi', _, he', _⟩
  · exact hr
  · exact absurd he' (hn i' hi')
theorem cov_of {f pf ks : Nat → ByteArray} {n m : Nat} (h1 : ∀ j, j < n → ks j = f j) (h2 : ∀ j, ks (n + j) = pf j) (k : ByteArray) : (∃ j, j < n + m ∧ ks j = k) ↔ (∃ i, i < n ∧ f i = k) ∨ ∃ i, i < m ∧ pf i = k := by
  constructor
  · rintro ⟨j, hj, e⟩
    by_cases hjn : j < n
    · exact .inl ⟨j, hjn, by rw [← h1 j hjn]; exact e⟩
    · refine .inr ⟨j - n, by omega, ?_⟩
      have := h2 (j - n)
      rw [show n + (j - n) = j by omega] at this
      rw [← this]; exact e
  · rintro (⟨i, hi, e⟩ | ⟨i, hi, e⟩)
    · exact ⟨i, by omega, by rw [h1 i hi]; exact e⟩
    · exact ⟨n + i, by omega, by rw [h2 i]; exact e⟩
/-- Draws alone part the two worlds. -/
def Same (w w' : World) : Prop := ∃ q, w' = w.drewN q
theorem Same.refl (w : World) : Same w w := ⟨0, rfl⟩
theorem Same.drewN {w w' : World} (h : Same w w') (q : Nat) : Same w (w'.drewN q) := by
  obtain ⟨p, rfl⟩ := h
  exact ⟨p + q, by rw [World.drewN_drewN]⟩
theorem Same.cell {w w' : World} (h : Same w w') (a : Addr) : w'.cell? a = w.cell? a := by
  obtain ⟨p, rfl⟩ := h
  simp
theorem Same.kept {w w' : World} (h : Same w w') : ∀ b i u, w.cell? ⟨b, i, none⟩ = some u → w'.cell? ⟨b, i, none⟩ = some u := fun b i u hu => (h.cell _).trans hu
theorem Same.below {w w' : World} (h : Same w w') {B : Nat} {v : World} (hb : Below B v w) : Below B v w' := by
  obtain ⟨p, rfl⟩ := h
  exact below_drewN hb p
theorem IsStrs.drewN {w : World} {v : Value} {n : Nat} {f : Nat → ByteArray} (h : IsStrs w v n f) (q : Nat) : IsStrs (w.drewN q) v n f := h.kept (fun b i u hu => by simpa using hu)
theorem IsPairs.drewN {w : World} {v : Value} {n : Nat} {f : Nat → ByteArray} {g : Nat → Value} (h : IsPairs w v n f g) (q : Nat) : IsPairs (w.drewN q) v n f g := h.kept (fun b i u hu => by simpa using hu)

set_option maxRecDepth 100000 in
set_option maxHeartbeats 4000000 in
theorem law5 (line : Int) (frm : ByteArray) (ess : Bool) (sv qv : Value) (n m : Nat) (f pf : Nat → ByteArray) (G : Nat → Value) (pv : Nat → Int) (ml : Nat → Nat) (ll : Nat → Nat → ByteArray) (w : World) (hf : frm.size ≤ maxLen)
    (hs : IsPairs w sv n f G) (hG : ∀ i, i < n → IsStrs w (G i) (ml i) (ll i) ∧ ml i ≤ maxLen) (hk : ∀ i, i < n → (f i).size ≤ maxLen) (hl : ∀ i j, i < n → j < ml i → (ll i j).size ≤ maxLen) (hp : IsPairs w qv m pf (fun i => .int .i64 (pv i))) (hpk : ∀ i, i < m → (pf i).size ≤ maxLen) (hnL : n ≤ maxLen) (hmL : m ≤ maxLen) :
    Calls Trym.prog 5 #[.int .i64 line, .string frm, .bool ess, sv, qv] w fun e w' => e = .returned (.bool true) ∧ Below w.heap.size w w' := by
  have H17 := hid (zz17 line frm ess sv qv n m f pf G (fun i => .int .i64 (pv i)) ml ll w hf hs hG hk hl hp hpk hnL hmL)
  have HS := hid hs
  have HP := hid hp
  have HG := hid hG
  obtain ⟨a, c, b, o, rfl, ha, hc⟩ := hs
  obtain ⟨a2, c2, b2, o2, rfl, ha2, hc2⟩ := hp
  unfold maxLen at hf hnL hmL
  have HA := hid ha
  have HC := hid hc
  have HA2 := hid ha2
  have HC2 := hid hc2
  clear ha hc ha2 hc2 hG hk hl hpk
  go_enter Trym.func5, Trym.ntmps5
  go_wp2_with fail
  refine H17.out.mono ?_
  clear H17
  rintro e w' ⟨hb, rfl⟩
  rcases hb with rfl | ⟨rfl, hml⟩
  · go_wp2
    go_ret
    exact ⟨rfl, Below.refl _ _⟩
  have HL := hid hml
  clear hml
  by_cases t1 : 4096 < (n : Int)
  · have d1 := dec_true t1
    go_wp2
    go_ret
    exact ⟨rfl, Below.refl _ _⟩
  have d1 := dec_false t1
  by_cases t2 : 4096 < (m : Int)
  · have d2 := dec_true t2
    go_wp2
    go_ret
    exact ⟨rfl, Below.refl _ _⟩
  have d2 := dec_false t2
  by_cases t3 : 1048576 < (frm.size : Int)
  · have d3 := dec_true t3
    go_wp2
    go_ret
    exact ⟨rfl, Below.refl _ _⟩
  have d3 := dec_false t3
  go_wp2_with fail
  refine (add12 _ frm _).mono ?_
  rintro e w' ⟨⟨r, rfl⟩, rfl⟩
  go_wp2_with fail
  go_loop [11, 12] (fun x i => ∃ k : Nat, ∃ z : Int, k ≤ n ∧ i = .int .i64 (k : Int) ∧ x = .int .i64 z) (fun _ i => n - (intOf i).toNat)
  case atStart => exact ⟨0, _, Nat.zero_le _, rfl, rfl⟩
  case round =>
    obtain ⟨k, z, hk, rfl, rfl⟩ := hrel
    by_cases hlt : k < n
    · obtain rfl := HA.out (by omega)
      have h0 := (HC.out k hlt).1
      have h1 := (HC.out k hlt).2
      have hstr := HG.out k hlt
      have hgk : ∃ x y z, G k = .slice x y z := by obtain ⟨⟨a, c, _, _, e, _⟩, _⟩ := hstr; exact ⟨_, _, _, e⟩
      obtain ⟨gx, gy, gz, hgk⟩ := hgk
      rw [hgk] at h1 hstr
      have HST := hid hstr.1
      have hmlk := HL.out k hlt
      clear hgk hstr
      go_wp2_with fail
      refine (add12 _ (f k) _).mono ?_
      rintro e w' ⟨⟨r1, rfl⟩, rfl⟩
      go_wp2_with fail
      refine (listBytes8 r1 _ (ml k) (ll k) _ HST.out hmlk).mono ?_
      rintro e w' ⟨⟨r2, rfl⟩, rfl⟩
      go_wp2
      go_round
      case rel => exact ⟨k + 1, _, by omega, by go_num, rfl⟩
      case measure => simp [intOf]; omega
    · obtain rfl : k = n := by omega
      go_wp2_with fail
      go_loop [11, 13] (fun x i => ∃ q : Nat, ∃ z : Int, q ≤ m ∧ i = .int .i64 (q : Int) ∧ x = .int .i64 z) (fun _ i => m - (intOf i).toNat)
      case atStart => exact ⟨0, _, Nat.zero_le _, rfl, rfl⟩
      case round =>
        obtain ⟨q, z, hq, rfl, rfl⟩ := hrel
        by_cases hlt2 : q < m
        · obtain rfl := HA2.out (by omega)
          have h0 := (HC2.out q hlt2).1
          go_wp2_with fail
          refine (add12 _ (pf q) _).mono ?_
          rintro e w' ⟨⟨r1, rfl⟩, rfl⟩
          go_wp2
          go_round
          case rel => exact ⟨q + 1, _, by omega, by go_num, rfl⟩
          case measure => simp [intOf]; omega
        · obtain rfl : q = m := by omega
          by_cases t4 : 1048576 < z
          · go_wp2
            go_ret
            exact ⟨rfl, Below.refl _ _⟩
          · have m1 := fun W => run_make_row' (P := Trym.prog) 22 9 (.string nilS) 16 Trym.underlying22 info9 rfl .i64 .i64 k (by omega) (by omega) W
            have m2 := fun W => run_make_row' (P := Trym.prog) 43 22 (.slice none 0 0) 24 Trym.underlying43 info22 rfl .i64 .i64 k (by omega) (by omega) W
            go_wp2_with fail
            clear m1 m2
            go_loopw [16] (fun i wr => ∃ x : Nat, x ≤ k ∧ i = .int .i64 (x : Int) ∧ Below w.heap.size w wr ∧ Hid (wr.rowIs w.heap.size 9 k (fun j => if j < x then .string (f j) else .string nilS)) ∧ Hid (wr.rowIs (w.heap.size + 1) 22 k (fun j => if j < x then G j else .slice none 0 0))) (fun i _ => k - (intOf i).toNat)
            case atStart => exact ⟨0, Nat.zero_le _, rfl, ((Below.refl _ _).alloc (Nat.le_refl _) _).alloc (by simp) _, hid (row_start ((World.rowIs_made _ _ _ _).alloc _)), hid (row_start (row_made_at _ _ _ _ _ (by simp)))⟩
            case round =>
              obtain ⟨x, hx, rfl, hB, R1, R2⟩ := hrel
              by_cases hlt3 : x < k
              · obtain rfl := HA.out (by omega)
                have h0 := kept_below hB _ _ _ (HC.out x hlt3).1
                have h1 := kept_below hB _ _ _ (HC.out x hlt3).2
                have hgk : ∃ x1 y z, G x = .slice x1 y z := by obtain ⟨⟨a, c, _, _, e, _⟩, _⟩ := HG.out x hlt3; exact ⟨_, _, _, e⟩
                obtain ⟨gx, gy, gz, hgk⟩ := hgk
                rw [hgk] at h1
                have HGK := hid hgk
                clear hgk
                have c1 := R1.out.cell hlt3
                have c2 := R2.out.cell hlt3
                have f1 := R1.out.frozen x
                have f2 := R2.out.frozen x
                rw [if_neg (Nat.lt_irrefl x)] at c1 c2
                go_wp2
                go_roundw
                case rel => exact ⟨x + 1, by omega, by go_num, (hB.setCell (Nat.le_refl _) _).setCell (by dsimp only; omega) _, hid ((row_next R1.out rfl).setOther (by dsimp only; omega) _), hid (row_next (R2.out.setOther (by dsimp only; omega) _) HGK.out.symm)⟩
                case measure => simp [intOf]; omega
              · obtain rfl : x = k := by omega
                obtain ⟨w1, rfl⟩ : ∃ w1 : World, w1 = wr := ⟨_, rfl⟩
                have K1 := hid (row_full R1.out)
                have K2 := hid (row_full R2.out)
                have hz1 : w.heap.size + 1 < w1.heap.size := K2.out.lt
                clear R1 R2
                have m1 := fun W => run_make_row' (P := Trym.prog) 22 9 (.string nilS) 16 Trym.underlying22 info9 rfl .i64 .i64 q (by omega) (by omega) W
                have m2 := fun W => run_make_row' (P := Trym.prog) 44 2 (.int .i64 0) 8 Trym.underlying44 info2 rfl .i64 .i64 q (by omega) (by omega) W
                go_wp2_with fail
                clear m1 m2
                go_loopw [19] (fun i wr => ∃ y : Nat, y ≤ q ∧ i = .int .i64 (y : Int) ∧ Below w1.heap.size w1 wr ∧ Hid (wr.rowIs w1.heap.size 9 q (fun j => if j < y then .string (pf j) else .string nilS)) ∧ Hid (wr.rowIs (w1.heap.size + 1) 2 q (fun j => if j < y then .int .i64 (pv j) else .int .i64 0))) (fun i _ => q - (intOf i).toNat)
                case atStart => exact ⟨0, Nat.zero_le _, rfl, ((Below.refl _ _).alloc (Nat.le_refl _) _).alloc (by simp) _, hid (row_start ((World.rowIs_made _ _ _ _).alloc _)), hid (row_start (row_made_at _ _ _ _ _ (by simp)))⟩
                case round =>
                  obtain ⟨y, hy, rfl, hB2, R3, R4⟩ := hrel
                  by_cases hlt4 : y < q
                  · obtain rfl := HA2.out (by omega)
                    have h0 := kept_below hB2 _ _ _ (kept_below hB _ _ _ (HC2.out y hlt4).1)
                    have h1 := kept_below hB2 _ _ _ (kept_below hB _ _ _ (HC2.out y hlt4).2)
                    have c1 := R3.out.cell hlt4
                    have c2 := R4.out.cell hlt4
                    have f1 := R3.out.frozen y
                    have f2 := R4.out.frozen y
                    rw [if_neg (Nat.lt_irrefl y)] at c1 c2
                    go_wp2
                    go_roundw
                    case rel => exact ⟨y + 1, by omega, by go_num, (hB2.setCell (Nat.le_refl _) _).setCell (by dsimp only; omega) _, hid ((row_next R3.out rfl).setOther (by dsimp only; omega) _), hid (row_next (R4.out.setOther (by dsimp only; omega) _) rfl)⟩
                    case measure => simp [intOf]; omega
                  · obtain rfl : y = q := by omega
                    obtain ⟨w2, rfl⟩ : ∃ w2 : World, w2 = wr := ⟨_, rfl⟩
                    have K3 := hid (row_full R3.out)
                    have K4 := hid (row_full R4.out)
                    have hz2 : w1.heap.size + 1 < w2.heap.size := K4.out.lt
                    clear R3 R4
                    have m3 := make22 x y (by omega) (by omega)
                    go_wp2_with fail
                    clear m3
                    have hks : ∀ j, j < x → askOf f pf x j = f j := fun j hj => by unfold askOf; rw [if_pos hj]
                    have hkp : ∀ j, askOf f pf x (x + j) = pf j := fun j => by unfold askOf; rw [if_neg (by omega), show x + j - x = j by omega]
                    have HKS := hid hks
                    have HKP := hid hkp
                    clear hks hkp
                    generalize askOf f pf x = ks at *
                    go_loopw [20, 21] (fun v i wr => ∃ k : Nat, k ≤ x ∧ i = .int .i64 (k : Int) ∧ v = .slice (some ⟨w2.heap.size, 0, none⟩) k (x + y) ∧ Hid (AskUpto wr w2.heap.size (x + y) k ks) ∧ Below w2.heap.size w2 wr) (fun _ i _ => x - (intOf i).toNat)
                    case atStart => exact ⟨0, Nat.zero_le _, rfl, rfl, hid (ask_start w2 (x + y) ks (by omega)), (Below.refl _ _).alloc (Nat.le_refl _) _⟩
                    case round =>
                      obtain ⟨k, hk5, rfl, rfl, AU, hB3⟩ := hrel
                      by_cases hlt5 : k < x
                      · obtain rfl := HA.out (by omega)
                        have h0 := kept_below hB3 _ _ _ (kept_below hB2 _ _ _ (kept_below hB _ _ _ (HC.out k hlt5).1))
                        obtain ⟨w', happ, hau, hgr⟩ := ask_next AU.out (f k) (HKS.out k hlt5) (by omega)
                        have HAU := hid hau
                        have hB4 := hB3.grown hgr hB3.size (fun j e => by have := Option.some.inj e; omega)
                        clear hau hgr
                        go_wp2_with (at_builtin; refine wpList_app rfl (.tmp 162) (.tmp 168) rfl rfl rfl rfl happ ?_)
                        go_roundw
                        case rel => exact ⟨k + 1, by omega, by go_num, rfl, HAU, hB4⟩
                        case measure => simp [intOf]; omega
                      · obtain rfl : k = x := by omega
                        go_wp2_with fail
                        go_loopw [20, 22] (fun v i wr => ∃ p : Nat, p ≤ y ∧ i = .int .i64 (p : Int) ∧ v = .slice (some ⟨w2.heap.size, 0, none⟩) (k + p) (k + y) ∧ Hid (AskUpto wr w2.heap.size (k + y) (k + p) ks) ∧ Below w2.heap.size w2 wr) (fun _ i _ => y - (intOf i).toNat)
                        case atStart => exact ⟨0, Nat.zero_le _, rfl, rfl, AU, hB3⟩
                        case round =>
                          obtain ⟨p, hp6, rfl, rfl, AU2, hB4⟩ := hrel
                          by_cases hlt6 : p < y
                          · obtain rfl := HA2.out (by omega)
                            have h0 := kept_below hB4 _ _ _ (kept_below hB2 _ _ _ (kept_below hB _ _ _ (HC2.out p hlt6).1))
                            obtain ⟨w', happ, hau, hgr⟩ := ask_next AU2.out (pf p) (HKP.out p) (by omega)
                            have HAU := hid hau
                            have hB5 := hB4.grown hgr hB4.size (fun j e => by have := Option.some.inj e; omega)
                            clear hau hgr
                            go_wp2_with (at_builtin; refine wpList_app rfl (.tmp 176) (.tmp 182) rfl rfl rfl rfl happ ?_)
                            go_roundw
                            case rel => exact ⟨p + 1, by omega, by go_num, rfl, HAU, hB5⟩
                            case measure => simp [intOf]; omega
                          · obtain rfl : p = y := by omega
                            obtain ⟨w3, rfl⟩ : ∃ w3 : World, w3 = wr := ⟨_, rfl⟩
                            go_wp2_with fail
                            have b23 : Below w1.heap.size w1 w3 := hB2.trans (hB4.mono hB2.size)
                            have bw3 : Below w.heap.size w w3 := hB.trans (b23.mono hB.size)
                            have hcov := cov_of (m := p) HKS.out HKP.out
                            have hG3 : ∀ i, i < k → IsStrs w3 (G i) (ml i) (ll i) ∧ ml i ≤ 1048576 := fun i hi => ⟨(HG.out i hi).1.kept (kept_below bw3), HL.out i hi⟩
                            refine (zz18 line frm ess w.heap.size (w.heap.size + 1) w1.heap.size (w1.heap.size + 1) k p (k + p) f pf ks G ml ll pv _ w3 (by omega) (by omega) (by omega) (row_below K1.out b23 (by omega)) (row_below K2.out b23 (by omega)) (row_below K3.out hB4 (by omega)) (row_below K4.out hB4 (by omega)) hG3 (ask_strs AU2.out) hcov).mono ?_
                            rintro e w4 ⟨B1, B2, B3, lv, Y, rfl, ⟨q1, q2, q3⟩, hST, hSay, hb4⟩
                            have bw4 : Below w.heap.size w w4 := bw3.trans (hb4.mono bw3.size)
                            have HAS := hid ((ask_strs AU2.out).kept (kept_below hb4))
                            have HS4 := hid (HS.out.kept (kept_below bw4))
                            have HP4 := hid (HP.out.kept (kept_below bw4))
                            have HG4 : Hid (∀ i, i < k → IsStrs w4 (G i) (ml i) (ll i)) := fun i hi => (HG.out i hi).1.kept (kept_below bw4)
                            have Q1 := hid q1
                            have Q2 := hid q2
                            have Q3 := hid q3
                            have HST := hid hST
                            have HSAY := hid hSay
                            clear b23 bw3 hcov hG3 q1 q2 q3 hST hSay hb4 K1 K2 K3 K4 AU AU2 hB hB2 hB3 hB4
                            have e1 : (((k + p : Nat) : Int) != ((k + p : Nat) : Int)) = false := by simp
                            have e2 : ((k : Int) + (p : Int) != (k : Int) + (p : Int)) = false := by simp
                            go_wp2_with fail
                            go_loopw [27] (fun i wr => ∃ j : Nat, j ≤ k + p ∧ i = .int .i64 (j : Int) ∧ Hid (Same w4 wr)) (fun i _ => k + p - (intOf i).toNat)
                            case atStart => exact ⟨0, Nat.zero_le _, rfl, hid (Same.refl _)⟩
                            case round =>
                              obtain ⟨j, hj, rfl, SM⟩ := hrel
                              by_cases hjl : j < k + p
                              · obtain ⟨xa, xc, xb, xo, hxe, hxa, hxc⟩ := HAS.out
                                obtain ⟨rfl, rfl⟩ : some (⟨w2.heap.size, 0, none⟩ : Addr) = xa ∧ k + p = xc := by cases hxe; exact ⟨rfl, rfl⟩
                                have hxa' := hxa (by omega)
                                obtain ⟨rfl, rfl⟩ : w2.heap.size = xb ∧ 0 = xo := by cases hxa'; exact ⟨rfl, rfl⟩
                                have ca := SM.out.kept _ _ _ (hxc j hjl)
                                rw [Nat.zero_add] at ca
                                have k1 := SM.out.kept _ _ _ (Q1.out.cell hjl)
                                have k2 := SM.out.kept _ _ _ (Q2.out.cell hjl)
                                have k3 := SM.out.kept _ _ _ (Q3.out.cell hjl)
                                have hst := (HST.out j hjl).kept SM.out.kept
                                have hsay := HSAY.out j hjl
                                clear hxe hxa hxc hxa'
                                rcases hsay with ⟨i, hi, hfi, hlast, hy⟩ | ⟨hno, i, hi, hfi, hlast, hy⟩
                                · rw [hy] at k1 k2 hst
                                  have k1' : wr.cell? ⟨B1, j, none⟩ = some (.int .i64 2) := k1
                                  have hst' : IsStrs wr (lv j) (ml i) (ll i) := hst
                                  have hlv : ∃ x1 y1 z1, lv j = .slice x1 y1 z1 := by obtain ⟨a, c, _, _, e, _⟩ := hst'; exact ⟨_, _, _, e⟩
                                  obtain ⟨lx, ly, lz, hlv⟩ := hlv
                                  rw [hlv] at k3 hst'
                                  obtain ⟨ga, gc, gb, go, hge, _⟩ := HG4.out i hi
                                  have hsa : IsStrs wr (.slice ga (ml i) gc) (ml i) (ll i) := by rw [← hge]; exact (HG4.out i hi).kept SM.out.kept
                                  have HSA := hid hsa
                                  have HSB := hid hst'
                                  have hmli := HL.out i hi
                                  have HY := hid (And.intro hi (And.intro hfi hlast))
                                  obtain ⟨sa, sc, sb, so, hse, hsaa, hscc⟩ := HS4.out
                                  obtain ⟨rfl, rfl⟩ : a = sa ∧ c = sc := by cases hse; exact ⟨rfl, rfl⟩
                                  obtain rfl := hsaa (by omega)
                                  have ci := SM.out.kept _ _ _ (hscc i hi).2
                                  rw [hge] at ci
                                  clear k1 k2 hst hst' hsa hge hlv hy hfi hlast hse hsaa hscc
                                  go_wp2_with fail
                                  refine (last19 _ k f G (ks j) _ (by omega) (HS4.out.kept SM.out.kept)).mono ?_
                                  rintro e w' ⟨⟨r, rfl, hr⟩, rfl⟩
                                  obtain rfl := last_eq hr HY.out.1 HY.out.2.1 HY.out.2.2
                                  clear hr
                                  go_wp2_with fail
                                  go_quiet ((go_at_call 10; exact Calls.quiet_of (same10 _ _ (ml i) (ll i) _ hmli (HSB.out.drewN _) (HSA.out.drewN _))))
                                  go_wp2
                                  go_roundw
                                  case rel => exact ⟨j + 1, by omega, by go_num, hid (SM.out.drewN _)⟩
                                  case measure => simp [intOf]; omega
                                · rw [hy] at k1 k2
                                  have k1' : wr.cell? ⟨B1, j, none⟩ = some (.int .i64 1) := k1
                                  have k2' : wr.cell? ⟨B2, j, none⟩ = some (.int .i64 (pv i)) := k2
                                  have HY := hid (And.intro hi (And.intro hfi hlast))
                                  have HNO := hid hno
                                  obtain ⟨sa, sc, sb, so, hse, hsaa, hscc⟩ := HP4.out
                                  obtain ⟨rfl, rfl⟩ : a2 = sa ∧ c2 = sc := by cases hse; exact ⟨rfl, rfl⟩
                                  obtain rfl := hsaa (by omega)
                                  have ci := SM.out.kept _ _ _ (hscc i hi).2
                                  have e3 : (pv i != pv i) = false := by simp
                                  clear k1 k2 hst hy hno hfi hlast hse hsaa hscc k3
                                  go_wp2_with fail
                                  refine (last19 _ k f G (ks j) _ (by omega) (HS4.out.kept SM.out.kept)).mono ?_
                                  rintro e w' ⟨⟨r, rfl, hr⟩, rfl⟩
                                  obtain rfl := last_no hr HNO.out
                                  clear hr
                                  go_wp2_with fail
                                  refine (last20 _ p pf _ (ks j) _ (by omega) (HP4.out.kept SM.out.kept)).mono ?_
                                  rintro e w' ⟨⟨r, rfl, hr⟩, rfl⟩
                                  obtain rfl := last_eq hr HY.out.1 HY.out.2.1 HY.out.2.2
                                  clear hr
                                  go_wp2_with fail
                                  go_quiet (fail)
                                  go_wp2
                                  go_roundw
                                  case rel => exact ⟨j + 1, by omega, by go_num, hid (SM.out.drewN _)⟩
                                  case measure => simp [intOf]; omega
                              · obtain rfl : j = k + p := by omega
                                have e4 : ((Tab.dist ks (k + p) : Nat) : Int) = ((Tab.dist ks (k + p) : Nat) : Int) := rfl
                                have e5 : (((Tab.dist ks (k + p) : Nat) : Int) == ((Tab.dist ks (k + p) : Nat) : Int)) = true := by simp
                                clear e4
                                go_wp2_with fail
                                refine (distinct21 _ (k + p) ks _ (by omega) (HAS.out.kept SM.out.kept)).mono ?_
                                rintro e w' ⟨rfl, q', rfl⟩
                                go_wp2
                                go_ret
                                exact ⟨rfl, below_drewN (SM.out.below bw4) _⟩
end Go.Proofs.Qxb6609504aMods.Add
