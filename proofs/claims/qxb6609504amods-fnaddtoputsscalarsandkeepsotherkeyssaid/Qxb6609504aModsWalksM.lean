/-
  A row of two-cell structs that the call makes empty and appends to, inside its room; THE WALK of ZZaddToScalars.
-/
import Derived.Test.Qxb6609504aModsWalksK
import Derived.WalkKit
import Derived.Below
import Derived.Deep.QuietTactic
import Derived.BigQuiet
import Derived.WalkSpells
import Derived.WalkLawsBesides
import Derived.Deep.OwnRows
import Derived.Deep.RegionWith
import Derived.RegionTactic
import Derived.Carry
import Derived.OwnWalk
import Derived.Deep.RegionLaw
namespace Go.Proofs.Qxb6609504aMods.Add
open Go.RowKit Go.Deep
set_option linter.unusedVariables false
set_option linter.unusedSimpArgs false

/-- 'make([]keyValue, 0, a+b+c)'. -/
theorem make65c (a b c : Nat) (ha : a ≤ 4096) (hb : b ≤ 4096) (hc : c ≤ 4096) (W : World) : (Instr.makeSlice 65 (.int .i64 0) (.int .i64 ((a : Int) + (b : Int) + (c : Int)))).run Trym.prog W = .ok (.slice (some ⟨W.heap.size, 0, none⟩) 0 (a + b + c)) (W.alloc (.cells (madeCells #[.string nilS, .nilIface] ((a + b + c) * 2)) 67)) := by
  obtain ⟨i, hi, hz⟩ := Option.map_eq_some_iff.1 info67
  simp only [Prod.mk.injEq] at hz
  obtain ⟨h1, h2, h3⟩ := hz
  have := run_make (P := Trym.prog) W 65 67 i _ Trym.underlying65 hi h1 .i64 .i64 0 ((a : Int) + (b : Int) + (c : Int)) (by omega) (by omega) (by rw [h3]; omega) (by omega)
  have e : ((a : Int) + (b : Int) + (c : Int)).toNat = a + b + c := by omega
  simpa [h2, Value.cells, e] using this

/-- The cells of the first k pairs. -/
def kvList (f : Nat → ByteArray) (V : Nat → Value) : Nat → List Value
  | 0 => []
  | k + 1 => kvList f V k ++ [.string (f k), V k]
theorem kvList_length (f : Nat → ByteArray) (V : Nat → Value) (k : Nat) : (kvList f V k).length = k * 2 := by
  induction k with
  | zero => rfl
  | succ k ih => simp only [kvList, List.length_append, ih, List.length_cons, List.length_nil]; omega
theorem kvList_at (f : Nat → ByteArray) (V : Nat → Value) (k i : Nat) (hi : i < k) : (kvList f V k)[i * 2]? = some (.string (f i)) ∧ (kvList f V k)[i * 2 + 1]? = some (V i) := by
  induction k with
  | zero => omega
  | succ k ih =>
    have hl := kvList_length f V k
    simp only [kvList]
    by_cases h : i < k
    · rw [List.getElem?_append_left (by omega), List.getElem?_append_left (by omega)]
      exact ih h
    · obtain rfl : i = k := by omega
      rw [List.getElem?_append_right (by omega), List.getElem?_append_right (by omega), hl]
      simp [show i * 2 + 1 - i * 2 = 1 by omega]

def KVUpto (w : World) (g cap k : Nat) (f : Nat → ByteArray) (V : Nat → Value) : Prop := w.ownsRow g 67 2 (.slice (some ⟨g, 0, none⟩) k cap) k (kvList f V k)

theorem kv_start (w : World) (cap : Nat) (f : Nat → ByteArray) (V : Nat → Value) (hc : cap ≤ 1048576) : KVUpto (w.alloc (.cells (madeCells #[.string nilS, .nilIface] (cap * 2)) 67)) w.heap.size cap 0 f V :=
  ⟨rfl, .inr ⟨w.heap.size, cap, _, rfl, Nat.le_refl _, blk_alloc_new _ _, Nat.zero_le _, by unfold maxLen; omega, by rw [size_madeCells], by simp [kvList]⟩⟩

theorem kv_lt {w : World} {g cap k : Nat} {f : Nat → ByteArray} {V : Nat → Value} (h : KVUpto w g cap k f V) : g < w.heap.size := by
  rcases h.2 with ⟨h, _⟩ | ⟨g', cap', cur, h, _, hg, _⟩
  · cases h
  · cases h
    exact (Array.getElem?_eq_some_iff.1 hg).1

theorem kv_pairs {w : World} {g cap n : Nat} {f : Nat → ByteArray} {V : Nat → Value} (h : KVUpto w g cap n f V) : IsPairs w (.slice (some ⟨g, 0, none⟩) n cap) n f V := by
  rcases h.2 with ⟨h, _⟩ | ⟨g', cap', cur, h, _, hg, hn, _, hs, ht⟩
  · cases h
  · cases h
    refine ⟨_, cap, g, 0, rfl, fun _ => rfl, fun i hi => ?_⟩
    have h2 := kvList_at f V n i hi
    rw [← ht, List.getElem?_take, if_pos (by omega), List.getElem?_take, if_pos (by omega)] at h2
    rw [Nat.zero_add]
    simp only [World.cell?, hg]
    simpa using h2

theorem kv_next {w : World} {g cap k : Nat} {f : Nat → ByteArray} {V : Nat → Value} (h : KVUpto w g cap k f V) (s : ByteArray) (v : Value) (hs : f k = s) (hv : V k = v) (hv1 : v.oneCell' = true) (hk : k + 1 ≤ cap) :
    ∃ w', (Builtin.append_ #[65, 65] 65 #[.slice (some ⟨g, 0, none⟩) k cap, .slice (some ⟨w.heap.size, 0, none⟩) 1 1]).run Trym.prog (w.alloc (.cells #[.string s, v] 67)) = .ok (.slice (some ⟨g, 0, none⟩) (k + 1) cap) w' ∧
      KVUpto w' g cap (k + 1) f V ∧ w.grownBy w' (some g) := by
  obtain ⟨i, hi, hz⟩ := Option.map_eq_some_iff.1 info67
  simp only [Prod.mk.injEq] at hz
  have hb : Below w.heap.size w (w.alloc (.cells #[.string s, v] 67)) := (Below.refl _ _).alloc (Nat.le_refl _) _
  have hown : (w.alloc (.cells #[.string s, v] 67)).ownsRow g 67 2 (.slice (some ⟨g, 0, none⟩) k cap) k (kvList f V k) := by
    refine ⟨h.1, ?_⟩
    rcases h.2 with h | ⟨g', cap', cur, h1, h2, h3, h4⟩
    · exact .inl h
    · exact .inr ⟨g', cap', cur, h1, h2, (hb.block g' (Array.getElem?_eq_some_iff.1 h3).1).trans h3, h4⟩
  obtain ⟨w', hrun, ho, hg⟩ := run_append_fits (P := Trym.prog) (w.alloc (.cells #[.string s, v] 67)) g 65 65 67 i 2 Trym.underlying65 hi hz.2.1 g k cap _ hown ⟨w.heap.size, 0, none⟩ 1 1 [.string s, v] rfl
    (by
      intro j u hu
      match j, hu with
      | 0, hu => simp at hu; subst hu; simp [Addr.add]
      | 1, hu => simp at hu; subst hu; simp [Addr.add]
      | j + 2, hu => simp at hu)
    (by
      intro u hu
      simp at hu
      rcases hu with rfl | rfl
      · rfl
      · exact hv1) hk
  refine ⟨w', hrun, ?_, ?_⟩
  · show w'.ownsRow _ _ _ _ _ _
    simp only [kvList]
    rw [hs, hv]
    exact ho
  · exact ⟨hg.os.trans hb.os, hg.tape.trans hb.tape, hg.output.trans hb.output, Nat.le_trans hb.size hg.size, fun b hb' hr => (hg.block b (Nat.lt_of_lt_of_le hb' hb.size) hr).trans (hb.block b hb')⟩

/-- An append whose run is known, as one step of a region that draws. -/
theorem step_app65 {ops : Array Oper} {o : Oper} {a : Act} {W w' : World} {K : Act → World → Prop} {Q : Exit → Act → World → Prop} {E : Prop} (hg : o.guard = none) (s x : Operand) (hop : o.op = Op.call { callee := Callee.builtin Builtin.append, args := #[s, x], argTypes := #[65, 65] }) (hty : o.type = 65)
    {u1 u2 v : Value} (hrun : (Builtin.append_ #[65, 65] 65 #[u1, u2]).run Trym.prog W = .ok v w') (hs : a.eval s = u1) (hx : a.eval x = u2) (hK : K (a.put o.dst v) w') : if Region.wanted o (yielded ops a.tmps) = true then Oper.wp Trym.prog o a W K Q else E := by
  have hw : Region.wanted o (yielded ops a.tmps) = true := by simp [Region.wanted, hg]
  rw [if_pos hw]
  unfold Oper.wp
  simp [execOp, hop, resolve, invoke, builtin, hs, hx, hty, hrun, Result.andThen]
  exact hK

set_option maxRecDepth 100000 in
set_option maxHeartbeats 4000000 in
theorem zz23 (line : Int) (frm : ByteArray) (ess : Bool) (g1 g2 g3 g4 g5 g6 g7 g8 n1 n2 n3 n4 N : Nat) (sf sx jf bf pf ks cf : Nat → ByteArray) (jx : Nat → Int) (bx : Nat → Bool) (G cV : Nat → Value) (cX : Nat → AV) (ml : Nat → Nat) (ll : Nat → Nat → ByteArray) (av : Value) (w : World)
    (hn1 : n1 ≤ 4096) (hn2 : n2 ≤ 4096) (hn3 : n3 ≤ 4096) (hn4 : n4 ≤ 4096) (hN : N ≤ 1048576)
    (r1 : w.rowIs g1 9 n1 (fun i => .string (sf i))) (r2 : w.rowIs g2 9 n1 (fun i => .string (sx i))) (r3 : w.rowIs g3 9 n2 (fun i => .string (jf i))) (r4 : w.rowIs g4 2 n2 (fun i => .int .i64 (jx i))) (r5 : w.rowIs g5 9 n3 (fun i => .string (bf i))) (r6 : w.rowIs g6 4 n3 (fun i => .bool (bx i))) (r7 : w.rowIs g7 9 n4 (fun i => .string (pf i))) (r8 : w.rowIs g8 22 n4 G)
    (hG : ∀ i, i < n4 → IsStrs w (G i) (ml i) (ll i) ∧ ml i ≤ 1048576) (ha : IsStrs w av N ks)
    (q1 : ∀ j, j < n1 → cf j = sf j ∧ cV j = .iface 9 (.string (sx j))) (q2 : ∀ j, j < n2 → cf (n1 + j) = jf j ∧ cV (n1 + j) = .iface 2 (.int .i64 (jx j))) (q3 : ∀ j, j < n3 → cf (n1 + n2 + j) = bf j ∧ cV (n1 + n2 + j) = .iface 4 (.bool (bx j)))
    (hX : ∀ j, j < n1 + n2 + n3 → Scal (cV j) (cX j)) (hcov : ∀ k, (∃ j, j < N ∧ ks j = k) ↔ (∃ i, i < n1 + n2 + n3 ∧ cf i = k) ∨ ∃ i, i < n4 ∧ pf i = k) :
    Calls Trym.prog 23 #[.int .i64 line, .string frm, .bool ess, .slice (some ⟨g1, 0, none⟩) n1 n1, .slice (some ⟨g2, 0, none⟩) n1 n1, .slice (some ⟨g3, 0, none⟩) n2 n2, .slice (some ⟨g4, 0, none⟩) n2 n2, .slice (some ⟨g5, 0, none⟩) n3 n3, .slice (some ⟨g6, 0, none⟩) n3 n3, .slice (some ⟨g7, 0, none⟩) n4 n4, .slice (some ⟨g8, 0, none⟩) n4 n4, av] w fun e w' =>
      ∃ (B1 B2 B3 B4 B5 : Nat) (lv : Nat → Value) (Y : Nat → AV), e = .returned (.tuple #[.int .i64 (Tab.dist ks N : Nat), .slice (some ⟨B1, 0, none⟩) N N, .slice (some ⟨B2, 0, none⟩) N N, .slice (some ⟨B3, 0, none⟩) N N, .slice (some ⟨B4, 0, none⟩) N N, .slice (some ⟨B5, 0, none⟩) N N]) ∧
      (w'.rowIs B1 3 N (fun j => .int .i64 (Y j).kind) ∧ w'.rowIs B2 9 N (fun j => .string (Y j).s) ∧ w'.rowIs B3 2 N (fun j => .int .i64 (Y j).n) ∧ w'.rowIs B4 4 N (fun j => .bool (Y j).b) ∧ w'.rowIs B5 22 N lv) ∧ (∀ j, j < N → IsStrs w' (lv j) (Y j).m (Y j).l) ∧
      (∀ j, j < N → Tab.Says cf cX (n1 + n2 + n3) pf (fun i => avList (ml i) (ll i)) n4 (ks j) (Y j)) ∧ Below w.heap.size w w' := by
  have R1 := hid r1
  have R2 := hid r2
  have R3 := hid r3
  have R4 := hid r4
  have R5 := hid r5
  have R6 := hid r6
  have R7 := hid r7
  have R8 := hid r8
  have HG := hid hG
  have HK := hid ha
  have HV := hid hcov
  have Q1 := hid q1
  have Q2 := hid q2
  have Q3 := hid q3
  have HX := hid hX
  clear r1 r2 r3 r4 r5 r6 r7 r8 hG ha hcov q1 q2 q3 hX
  have hmk := make65c n1 n2 n3 hn1 hn2 hn3
  have hmm := @run_makeMap Trym.prog
  have hav : ∃ a c, av = .slice a N c := by obtain ⟨a, c, _, _, e, _⟩ := HK.out; exact ⟨a, c, e⟩
  obtain ⟨aa, ac, rfl⟩ := hav
  go_enter Trym.func23, Trym.ntmps23
  go_wp2_with fail
  clear hmk
  go_loopw [30, 31] (fun v i wr => ∃ k : Nat, k ≤ n1 ∧ i = .int .i64 (k : Int) ∧ v = .slice (some ⟨w.heap.size, 0, none⟩) k (n1 + n2 + n3) ∧ Hid (KVUpto wr w.heap.size (n1 + n2 + n3) k cf cV) ∧ Below w.heap.size w wr) (fun _ i _ => n1 - (intOf i).toNat)
  case atStart => exact ⟨0, Nat.zero_le _, rfl, rfl, hid (kv_start w (n1 + n2 + n3) cf cV (by omega)), (Below.refl _ _).alloc (Nat.le_refl _) _⟩
  case round =>
    obtain ⟨k, hk, rfl, rfl, KU, hB⟩ := hrel
    by_cases hlt : k < n1
    · have c1 := (row_below R1.out hB R1.out.lt).cell hlt
      have c2 := (row_below R2.out hB R2.out.lt).cell hlt
      obtain ⟨w', happ, hku, hgr⟩ := kv_next (w := wr.drew) (show KVUpto wr.drew _ _ _ _ _ from KU.out) (sf k) (.iface 9 (.string (sx k))) (Q1.out k hlt).1 (Q1.out k hlt).2 rfl (by omega)
      have HKU := hid hku
      have hB4 := hB.drew.grown hgr hB.size (fun j e => by have := Option.some.inj e; omega)
      clear hku hgr
      go_wp2_with fail
      go_region_law (refine step_app65 rfl (.tmp 51) (.tmp 62) rfl rfl happ (by simp [Act.eval, Act.put]) (by simp [Act.eval, Act.put]) ?_)
      all_goals go_wp2
      all_goals exact ⟨⟨k + 1, by omega, by go_num, rfl, HKU, hB4⟩, by simp [intOf]; omega⟩
    · obtain rfl : k = n1 := by omega
      go_wp2_with fail
      go_loopw [30, 32] (fun v i wr => ∃ x : Nat, x ≤ n2 ∧ i = .int .i64 (x : Int) ∧ v = .slice (some ⟨w.heap.size, 0, none⟩) (k + x) (k + n2 + n3) ∧ Hid (KVUpto wr w.heap.size (k + n2 + n3) (k + x) cf cV) ∧ Below w.heap.size w wr) (fun _ i _ => n2 - (intOf i).toNat)
      case atStart => exact ⟨0, Nat.zero_le _, rfl, rfl, KU, hB⟩
      case round =>
        obtain ⟨x, hx, rfl, rfl, KU2, hB2⟩ := hrel
        by_cases hlt2 : x < n2
        · have c1 := (row_below R3.out hB2 R3.out.lt).cell hlt2
          have c2 := (row_below R4.out hB2 R4.out.lt).cell hlt2
          obtain ⟨w', happ, hku, hgr⟩ := kv_next (w := wr.drew) (show KVUpto wr.drew _ _ _ _ _ from KU2.out) (jf x) (.iface 2 (.int .i64 (jx x))) (Q2.out x hlt2).1 (Q2.out x hlt2).2 rfl (by omega)
          have HKU := hid hku
          have hB4 := hB2.drew.grown hgr hB2.size (fun j e => by have := Option.some.inj e; omega)
          clear hku hgr
          go_wp2_with fail
          go_region_law (refine step_app65 rfl (.tmp 70) (.tmp 81) rfl rfl happ (by simp [Act.eval, Act.put]) (by simp [Act.eval, Act.put]) ?_)
          all_goals go_wp2
          all_goals exact ⟨⟨x + 1, by omega, by go_num, rfl, HKU, hB4⟩, by simp [intOf]; omega⟩
        · obtain rfl : x = n2 := by omega
          go_wp2_with fail
          go_loopw [30, 33] (fun v i wr => ∃ y : Nat, y ≤ n3 ∧ i = .int .i64 (y : Int) ∧ v = .slice (some ⟨w.heap.size, 0, none⟩) (k + x + y) (k + x + n3) ∧ Hid (KVUpto wr w.heap.size (k + x + n3) (k + x + y) cf cV) ∧ Below w.heap.size w wr) (fun _ i _ => n3 - (intOf i).toNat)
          case atStart => exact ⟨0, Nat.zero_le _, rfl, rfl, KU2, hB2⟩
          case round =>
            obtain ⟨y, hy, rfl, rfl, KU3, hB3⟩ := hrel
            by_cases hlt3 : y < n3
            · have c1 := (row_below R5.out hB3 R5.out.lt).cell hlt3
              have c2 := (row_below R6.out hB3 R6.out.lt).cell hlt3
              obtain ⟨w', happ, hku, hgr⟩ := kv_next (w := wr.drew) (show KVUpto wr.drew _ _ _ _ _ from KU3.out) (bf y) (.iface 4 (.bool (bx y))) (Q3.out y hlt3).1 (Q3.out y hlt3).2 rfl (by omega)
              have HKU := hid hku
              have hB4 := hB3.drew.grown hgr hB3.size (fun j e => by have := Option.some.inj e; omega)
              clear hku hgr
              go_wp2_with fail
              go_region_law (refine step_app65 rfl (.tmp 89) (.tmp 100) rfl rfl happ (by simp [Act.eval, Act.put]) (by simp [Act.eval, Act.put]) ?_)
              all_goals go_wp2
              all_goals exact ⟨⟨y + 1, by omega, by go_num, rfl, HKU, hB4⟩, by simp [intOf]; omega⟩
            · obtain rfl : y = n3 := by omega
              obtain ⟨w1, rfl⟩ : ∃ w1 : World, w1 = wr := ⟨_, rfl⟩
              have hs1 := hB3.size
              have hlt0 := kv_lt KU3.out
              clear KU KU2 hB hB2
              go_wp2_with fail
              clear hmm
              go_loopw [35] (fun i wr => ∃ q : Nat, q ≤ n4 ∧ i = .int .i64 (q : Int) ∧ Hid (IsMap wr w1.heap.size (Tab.putsN [] pf (fun i => .iface 22 (G i)) q)) ∧ Hid ((w1.alloc (.map #[] 0)).grownBy wr (some w1.heap.size))) (fun i _ => n4 - (intOf i).toNat)
              case atStart => exact ⟨0, Nat.zero_le _, rfl, hid (IsMap.made w1), hid (gb_refl _ _)⟩
              case round =>
                obtain ⟨q, hq, rfl, IM, IG⟩ := hrel
                have hB1 : Below w.heap.size w (w1.alloc (.map #[] 0)) := hB3.alloc hs1 _
                by_cases hlt4 : q < n4
                · have c3 := (row_grown (row_below R7.out hB1 R7.out.lt) IG.out (by have := R7.out.lt; omega)).cell hlt4
                  have c4 := (row_grown (row_below R8.out hB1 R8.out.lt) IG.out (by have := R8.out.lt; omega)).cell hlt4
                  have hgk : ∃ a l c, G q = .slice a l c := by obtain ⟨⟨a, c, _, _, e, _⟩, _⟩ := HG.out q hlt4; exact ⟨_, _, _, e⟩
                  obtain ⟨ga, gm, gc, hgk⟩ := hgk
                  obtain ⟨w2, hput, hM2, hG2⟩ := run_put (w := wr.drew) (show IsMap wr.drew _ _ from IM.out) (pf q) (.iface 22 (G q))
                  rw [hgk] at c4 hput
                  have HM2 := hid hM2
                  have HG2 := hid hG2
                  clear hM2 hG2 hgk
                  go_wp2_with fail
                  go_region
                  all_goals go_wp2
                  all_goals exact ⟨⟨q + 1, by omega, by go_num, hid HM2.out, hid (gb_trans (gb_below IG.out ((Below.refl _ _).drew)) HG2.out)⟩, by simp [intOf]; omega⟩
                · obtain rfl : q = n4 := by omega
                  have hM0 := IsMap.made w1
                  have keep := kept_grown hM0 IG.out
                  have keepA : ∀ b i u, w.cell? ⟨b, i, none⟩ = some u → wr.cell? ⟨b, i, none⟩ = some u := fun b i u hu => keep b i u ((kept_below (hB1)) b i u hu)
                  have hP := ((kv_pairs KU3.out).kept (kept_below ((Below.refl _ _).alloc (Nat.le_refl _) (.map #[] 0)))).kept keep
                  have hD : ∀ j, j < k + x + y → DecIn wr (cV j) (cX j) := fun j hj => .inl (HX.out j hj)
                  have hPR : ∀ i, i < q → Rep wr (.iface 22 (G i)) (avList (ml i) (ll i)) := fun i hi => .inr (.inr ⟨ml i, ll i, ⟨G i, rfl, (HG.out i hi).2, (HG.out i hi).1.kept keepA⟩, rfl⟩)
                  have hBr : Below w.heap.size w wr := ⟨IG.out.os.trans hB1.os, IG.out.tape.trans hB1.tape, IG.out.output.trans hB1.output, by have := IG.out.size; have := hB1.size; omega, fun i hi => by
                    rw [IG.out.block i (by have := hB1.size; omega) (fun e => by have := Option.some.inj e; omega)]; exact hB1.block i hi⟩
                  have HP := hid hP
                  have HD := hid hD
                  have HPR := hid hPR
                  have HKA := hid keepA
                  clear hM0 keep keepA hP hD hPR
                  go_wp2_with fail
                  refine (add28 line frm ess w1.heap.size _ _ (k + x + y) cf cV cX wr (by omega) IM.out HP.out HD.out).mono ?_
                  rintro e w3 ⟨rfl, V, hM3, hR3, hG3⟩
                  have keep3 := kept_grown IM.out hG3
                  have hask := (HK.out.kept HKA.out).kept keep3
                  have hPR3 : ∀ i, i < q → Rep w3 (.iface 22 (G i)) (avList (ml i) (ll i)) := fun i hi => (HPR.out i hi).kept keep3
                  have hB5 : Below w.heap.size w w3 := hBr.grown hG3 hBr.size (fun i e => by have := Option.some.inj e; omega)
                  have HM3 := hid hM3
                  have HR3 := hid hR3
                  have HPR3 := hid hPR3
                  have HAS := hid hask
                  clear hM3 hR3 hG3 keep3 hask IM IG HP HD HKA hBr hB1 hPR3 HPR
                  go_wp2_with fail
                  refine (view29t w1.heap.size pf (fun i => .iface 22 (G i)) (fun i => avList (ml i) (ll i)) q cf V cX (k + x + y) (.slice aa N ac) N ks w3 hN HM3.out HPR3.out HR3.out HAS.out HV.out).mono ?_
                  rintro e w4 ⟨lv, Y, rfl, ⟨g1, g2, g3, g4, g5⟩, hS, hY, hb4⟩
                  have K1 := hid g1
                  have K2 := hid g2
                  have K3 := hid g3
                  have K4 := hid g4
                  have K5 := hid g5
                  have HS := hid hS
                  have HY := hid hY
                  have hB6 := hB5.trans (hb4.mono hB5.size)
                  clear g1 g2 g3 g4 g5 hS hY hb4
                  go_wp2
                  exact bodyPost_ret (v := .tuple #[.int .i64 (Tab.dist ks N : Nat), .slice (some ⟨w3.heap.size, 0, none⟩) N N, .slice (some ⟨w3.heap.size + 1, 0, none⟩) N N, .slice (some ⟨w3.heap.size + 1 + 1, 0, none⟩) N N, .slice (some ⟨w3.heap.size + 1 + 1 + 1, 0, none⟩) N N, .slice (some ⟨w3.heap.size + 1 + 1 + 1 + 1, 0, none⟩) N N]) (by simp [results, Trym.results23, go_sem]) rfl
                    ⟨_, _, _, _, _, lv, Y, rfl, ⟨K1.out, K2.out, K3.out, K4.out, K5.out⟩, HS.out, HY.out, hB6⟩
end Go.Proofs.Qxb6609504aMods.Add
