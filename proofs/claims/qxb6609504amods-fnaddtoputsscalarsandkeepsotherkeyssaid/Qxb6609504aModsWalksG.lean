/-
  THE WALK of (setting).addTo.
-/
import Derived.Test.Qxb6609504aModsWalksF
import Derived.WalkKit
import Derived.Below
import Derived.Deep.QuietTactic
import Derived.BigQuiet
import Derived.WalkSpells
import Derived.WalkLawsBesides
import Derived.Deep.OwnRows
import Derived.Deep.RegionWith
import Derived.RegionTactic
namespace Go.Proofs.Qxb6609504aMods.Add
open Go.RowKit
set_option linter.unusedVariables false
set_option linter.unusedSimpArgs false


/-- What 'decoded' makes of 'v': a scalar as it is; a []string as a []any. -/
def DecIn (w : World) (v : Value) (x : AV) : Prop := Scal v x ∨ ∃ m l, Strs w v m l ∧ x = avAny m l
theorem DecIn.kept {w w' : World} {v : Value} {x : AV} (h : DecIn w v x) (hk : ∀ b i u, w.cell? ⟨b, i, none⟩ = some u → w'.cell? ⟨b, i, none⟩ = some u) : DecIn w' v x := by
  rcases h with h | ⟨m, l, ⟨u, hv, hm, hs⟩, hx⟩
  · exact .inl h
  · exact .inr ⟨m, l, ⟨u, hv, hm, hs.kept hk⟩, hx⟩
theorem IsPairs.kept {w w' : World} {v : Value} {n : Nat} {f : Nat → ByteArray} {g : Nat → Value} (h : IsPairs w v n f g) (hk : ∀ b i u, w.cell? ⟨b, i, none⟩ = some u → w'.cell? ⟨b, i, none⟩ = some u) : IsPairs w' v n f g := by
  obtain ⟨a, c, b, o, hv, ha, hc⟩ := h
  exact ⟨a, c, b, o, hv, ha, fun i hi => ⟨hk _ _ _ (hc i hi).1, hk _ _ _ (hc i hi).2⟩⟩

theorem dec27 (v : Value) (x : AV) (w : World) (h : DecIn w v x) : Calls Trym.prog 27 #[v] w fun e w' => ∃ u, e = .returned u ∧ Rep w' u x ∧ Below w.heap.size w w' := by
  rcases h with h | ⟨m, l, h, rfl⟩
  · refine (dec27_scal v x w h).mono ?_
    rintro e w' ⟨rfl, rfl⟩
    exact ⟨v, rfl, .inl h, Below.refl _ _⟩
  · refine (dec27_strs v m l w h).mono ?_
    rintro e w' ⟨⟨u, rfl, ha⟩, hb⟩
    exact ⟨u, rfl, .inr (.inl ha), hb⟩

theorem DecIn.form {w : World} {v : Value} {x : AV} (h : DecIn w v x) : ∃ t u, v = .iface t u := by
  rcases h with (⟨n, rfl, _⟩ | ⟨s, rfl, _⟩ | ⟨b, rfl, _⟩) | ⟨m, l, ⟨u, rfl, _⟩, _⟩ <;> exact ⟨_, _, rfl⟩

theorem gb_refl (w : World) (r : Option Nat) : w.grownBy w r := ⟨rfl, rfl, rfl, Nat.le_refl _, fun _ _ _ => rfl⟩
theorem gb_below {w a b : World} {r : Option Nat} (h : w.grownBy a r) (hb : Below a.heap.size a b) : w.grownBy b r :=
  ⟨hb.os.trans h.os, hb.tape.trans h.tape, hb.output.trans h.output, Nat.le_trans h.size hb.size, fun k hk hr => (hb.block k (Nat.lt_of_lt_of_le hk h.size)).trans (h.block k hk hr)⟩
theorem gb_trans {w a b : World} {r : Option Nat} (h : w.grownBy a r) (k : a.grownBy b r) : w.grownBy b r :=
  ⟨k.os.trans h.os, k.tape.trans h.tape, k.output.trans h.output, Nat.le_trans h.size k.size, fun i hi hr => (k.block i (Nat.lt_of_lt_of_le hi h.size) hr).trans (h.block i hi hr)⟩

/-- What a round of addTo carries on. -/
def Filled (w wr : World) (tb : Nat) (L : List (ByteArray × Value)) (f : Nat → ByteArray) (X : Nat → AV) (k : Nat) : Prop :=
  ∃ V : Nat → Value, IsMap wr tb (Tab.putsN L f V k) ∧ (∀ j, j < k → Rep wr (V j) (X j)) ∧ w.grownBy wr (some tb)

theorem Filled.next {w wr wa w1 w2 : World} {tb : Nat} {L : List (ByteArray × Value)} {f : Nat → ByteArray} {X : Nat → AV} {k : Nat} {V : Nat → Value} {v : Value} (iR : ∀ j, j < k → Rep wr (V j) (X j)) (iG : w.grownBy wr (some tb)) (hA : Below wr.heap.size wr wa) (hB : Below wa.heap.size wa w1)
    (hM1 : IsMap w1 tb (Tab.putsN L f V k)) (hr : Rep w1 v (X k)) (hM2 : IsMap w2 tb (Tab.upd (Tab.putsN L f V k) (f k) v)) (hG : w1.grownBy w2 (some tb)) : Filled w w2 tb L f X (k + 1) := by
  have e : Tab.putsN L f (fun j => if j = k then v else V j) (k + 1) = Tab.upd (Tab.putsN L f V k) (f k) v := by
    show Tab.upd (Tab.putsN L f (fun j => if j = k then v else V j) k) (f k) (if k = k then v else V k) = _
    rw [if_pos rfl, Tab.putsN_congr L f f (fun j => if j = k then v else V j) V k (fun j hj => ⟨rfl, by rw [if_neg (by omega)]⟩)]
  refine ⟨fun j => if j = k then v else V j, by rw [e]; exact hM2, fun j hj => ?_, gb_trans (gb_below (gb_below iG hA) hB) hG⟩
  have k2 := kept_grown hM1 hG
  dsimp only
  by_cases h : j = k
  · subst h; rw [if_pos rfl]; exact hr.kept k2
  · rw [if_neg h]; exact (((iR j (by omega)).kept (kept_below hA)).kept (kept_below hB)).kept k2

set_option maxRecDepth 100000 in
set_option maxHeartbeats 1000000 in
theorem add28 (line : Int) (frm : ByteArray) (ess : Bool) (tb : Nat) (L : List (ByteArray × Value)) (kv : Value) (n : Nat) (f : Nat → ByteArray) (G : Nat → Value) (X : Nat → AV) (w : World) (hn : n ≤ 1048576) (hm : IsMap w tb L) (hk : IsPairs w kv n f G) (hd : ∀ j, j < n → DecIn w (G j) (X j)) :
    Calls Trym.prog 28 #[.agg #[.int .i64 line, .string frm, kv, .bool ess], .map (some tb)] w fun e w' => e = .returned (.tuple #[]) ∧ Filled w w' tb L f X n := by
  obtain ⟨a, c, b, o, rfl, ha, hc⟩ := hk
  have HA := hid ha
  have HC := hid hc
  have HD := hid hd
  have HM := hid hm
  clear ha hc hd hm
  go_enter Trym.func28, Trym.ntmps28
  go_wp2_with fail
  go_loopw [9] (fun i wr => ∃ k : Nat, k ≤ n ∧ i = .int .i64 (k : Int) ∧ Hid (Filled w wr tb L f X k)) (fun i _ => n - (intOf i).toNat)
  case atStart => exact ⟨0, Nat.zero_le _, rfl, fun _ => .nilIface, HM.out.below ((Below.refl _ _).alloc (Nat.le_refl _) _) HM.out.lt, fun j hj => by omega, gb_below (gb_refl _ _) ((Below.refl _ _).alloc (Nat.le_refl _) _)⟩
  case round =>
    obtain ⟨k, hk, rfl, HI⟩ := hrel
    by_cases hlt : k < n
    · obtain rfl := HA.out (by omega)
      obtain ⟨V, iM, iR, iG⟩ := HI.out
      have keep := kept_grown HM.out iG
      have h0 := keep _ _ _ (HC.out k hlt).1
      have h1 := keep _ _ _ (HC.out k hlt).2
      have hd := (HD.out k hlt).kept keep
      obtain ⟨t, u, hgk⟩ := hd.form
      rw [hgk] at h1 hd
      have HDk := hid hd
      have IM := hid iM
      have IR := hid iR
      have IG := hid iG
      clear iM iR iG keep hd HI
      go_wp2_with fail
      have bA : Below wr.heap.size wr (wr.alloc (.cells #[.string (f k), .iface t u] 67)).drew := ((Below.refl _ _).alloc (Nat.le_refl _) _).drew
      have ltA : wr.heap.size < (wr.alloc (.cells #[.string (f k), .iface t u] 67)).drew.heap.size := by simp
      have cA : (wr.alloc (.cells #[.string (f k), .iface t u] 67)).drew.cell? ⟨wr.heap.size, 0, none⟩ = some (.string (f k)) := by simp
      have hDA := HDk.out.kept (kept_below bA)
      have hMA := IM.out.below bA IM.out.lt
      have HDA := hid hDA
      have HMA := hid hMA
      have BA := hid bA
      clear hDA hMA bA
      go_region_with (go_at_call 27; refine (dec27 (.iface t u) (X k) _ HDA.out).mono ?_; rintro e w1 ⟨v, rfl, hr, hb⟩; have hkc : w1.cell? ⟨wr.heap.size, 0, none⟩ = some (.string (f k)) := (hb.cell (p := ⟨wr.heap.size, 0, none⟩) ltA).trans cA; have hM1 := HMA.out.below hb HMA.out.lt; obtain ⟨w2, hput, hM2, hG2⟩ := run_put hM1 (f k) v; have HR1 := hid hr; have HB1 := hid hb; have HM1 := hid hM1; have HM2 := hid hM2; have HG2 := hid hG2; clear hr hb hM1 hM2 hG2)
      all_goals
        go_wp2
        go_roundw
        case rel => exact ⟨k + 1, by omega, by go_num, Filled.next IR.out IG.out BA.out HB1.out HM1.out HR1.out HM2.out HG2.out⟩
        case measure => simp [intOf]; omega
    · obtain rfl : k = n := by omega
      go_wp2
      go_end0
      exact ⟨rfl, HI.out⟩
end Go.Proofs.Qxb6609504aMods.Add
